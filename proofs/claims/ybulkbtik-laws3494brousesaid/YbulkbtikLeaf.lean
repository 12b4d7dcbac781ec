import Derived.Test.YbulkbtikLocks
import Derived.Test.YbulkbtikFloat
import Derived.Conc.LoneSelect
import Derived.WalkKit
import Derived.WalkSpells
import Derived.WalkSmall
import Derived.BigQuiet
import Derived.Deep.QuietTactic
import Derived.Deep.OwnRows
import Derived.Deep.RegionHeld3
import Derived.Below
namespace Go.Proofs.Ybulkbtik
open Go.RowKit

theorem hide {p : Prop} (h : p) : Hid p := h
theorem unhide {p : Prop} (h : Hid p) : p := h

/-- 1 or 0. -/
def bit (b : Bool) : Int := if b then 1 else 0

theorem b32_any (b : Bool) (w : World) : Calls Yba.prog 16 #[.bool b] w fun e w' => e = .returned (.int .u32 (bit b)) ∧ w' = w := by
  cases b
  · go_enter Yba.func16, Yba.ntmps16
    go_wp2
    go_ret
    exact ⟨rfl, rfl⟩
  · go_enter Yba.func16, Yba.ntmps16
    go_wp2
    go_ret
    exact ⟨rfl, rfl⟩

theorem load_u32 {a : Addr} {x : Int} {w : World} (hc : w.cell? a = some (.int .u32 x)) : (callFunc 20 #[.pointer (some a)]).run Yba.prog w = .ok (.value (.int .u32 x)) w :=
  run_call_load Yba.func20 (by kernel_rfl) (by kernel_rfl) (by kernel_rfl) .u32 (by kernel_rfl) hc
theorem load_i64 {a : Addr} {x : Int} {w : World} (hc : w.cell? a = some (.int .i64 x)) : (callFunc 21 #[.pointer (some a)]).run Yba.prog w = .ok (.value (.int .i64 x)) w :=
  run_call_load Yba.func21 (by kernel_rfl) (by kernel_rfl) (by kernel_rfl) .i64 (by kernel_rfl) hc
theorem store_u32 {a : Addr} {y : Int} {u : Value} {w : World} (hc : w.cell? a = some u) (hz : w.frozen? a = false) : (callFunc 15 #[.pointer (some a), .int .u32 y]).run Yba.prog w = .ok (.value (.tuple #[])) (w.setCell a (.int .u32 y)) :=
  run_call_store Yba.func15 (by kernel_rfl) (by kernel_rfl) (by kernel_rfl) (by kernel_rfl) hc hz

theorem bload_any (b o : Nat) (v : Bool) (w : World) (hc : w.cell? ⟨b, o, none⟩ = some (.int .u32 (bit v))) : Calls Yba.prog 11 #[.pointer (some ⟨b, o, none⟩)] w fun e w' => e = .returned (.bool v) ∧ w' = w := by
  have hl := load_u32 hc
  go_enter Yba.func11, Yba.ntmps11
  go_wp2
  go_ret
  refine ⟨?_, rfl⟩
  cases v <;> rfl

theorem iload_any (b o : Nat) (x : Int) (w : World) (hc : w.cell? ⟨b, o, none⟩ = some (.int .i64 x)) : Calls Yba.prog 12 #[.pointer (some ⟨b, o, none⟩)] w fun e w' => e = .returned (.int .i64 x) ∧ w' = w := by
  have hl := load_i64 hc
  go_enter Yba.func12, Yba.ntmps12
  go_wp2
  go_ret
  exact ⟨rfl, rfl⟩

theorem iadd_any (b o : Nat) (x : Int) (w : World) (hx : 0 ≤ x ∧ x ≤ 5000) (hc : w.cell? ⟨b, o, none⟩ = some (.int .i64 x)) (hz : w.frozen? ⟨b, o, none⟩ = false) :
    Calls Yba.prog 27 #[.pointer (some ⟨b, o, none⟩), .int .i64 1] w fun e w' => e = .returned (.int .i64 (x + 1)) ∧ w' = w.setCell ⟨b, o, none⟩ (.int .i64 (x + 1)) := by
  have hadd := run_call_add (P := Yba.prog) Yba.func35 (by kernel_rfl) (by kernel_rfl) (by kernel_rfl) .i64 (by kernel_rfl) (y := 1) (s := x + 1) hc hz (by simp [go_sem]; rw [IntKind.wrap_i64]; congr 1; omega)
  go_enter Yba.func27, Yba.ntmps27
  go_wp2
  go_ret
  exact ⟨rfl, rfl⟩

theorem bstore_any (b o : Nat) (v : Bool) (u : Value) (w : World) (hc : w.cell? ⟨b, o, none⟩ = some u) (hz : w.frozen? ⟨b, o, none⟩ = false) :
    Calls Yba.prog 8 #[.pointer (some ⟨b, o, none⟩), .bool v] w fun e w' => e = .returned (.tuple #[]) ∧ w' = (w.setCell ⟨b, o, none⟩ (.int .u32 (bit v))).drew := by
  have hs : ∀ y, (callFunc 15 #[.pointer (some ⟨b, o, none⟩), .int .u32 y]).run Yba.prog w.drew = .ok (.value (.tuple #[])) (w.drew.setCell ⟨b, o, none⟩ (.int .u32 y)) := fun y => store_u32 hc hz
  go_enter Yba.func8, Yba.ntmps8
  go_wp2
  go_region_held3 (fun w' => w'.heap.size = w.heap.size) ((first | rfl | simp)) ((go_at_call 16; refine (b32_any v _).mono ?_; rintro e w1 ⟨rfl, rfl⟩))
  all_goals (go_wp2; go_end0; exact ⟨rfl, rfl⟩)
end Go.Proofs.Ybulkbtik

import Derived.Test.YbulkbtikFmtFacts
import Derived.WalkSpells
namespace Go.Proofs.YbulkbtikFmt
open Go.RowKit Go.Extern.Stop Go.Stop Go.Extern
theorem neq_types (tx ty : TypeId) (vx vy : Value) (hne : tx ≠ ty) (w : World) :
    (binOp .neq 23 (.iface tx vx) (.iface ty vy)).run Ybaf.prog w = .ok (.bool true) w := by
  have h : ∀ d : Nat, (Op.equalIn (d + 1) 23 (.iface tx vx) (.iface ty vy)).run Ybaf.prog w = .ok false w := fun d => by simp [Op.equalIn, run_underlying Ybaf.underlying23, hne]
  simp only [binOp]
  simp [Op.equal, Op.maxDepth, h 9999]
attribute [local go_sem] call10 guardOk fmt0 fmt0r fmt1 fmt1r op9_113w op9_119w op9_118w strict9 ptr49 elem49 isError49 ptr59 elem59 isError59

set_option maxRecDepth 100000 in
set_option maxHeartbeats 1000000 in
theorem law_zero (name text : ByteArray) (mode : Int) (w : World) (h0 : 0 ≤ mode) (h1 : mode ≤ 255) (hm : mode % 3 = 0) :
    Calls Ybaf.prog 3 #[.string name, .int .u8 mode, .string text] w fun e w' => e = .returned (.bool true) ∧ Below w.heap.size w w' := by
  go_enter Ybaf.func3, Ybaf.ntmps3
  go_wp2
  go_ret
  refine ⟨rfl, ?_⟩

  repeat (first | exact Below.refl _ _ | refine Below.drew ?_ | refine Below.setCell ?_ (by first | (simp; done) | (simp; omega)) _ | refine Below.alloc ?_ (by first | (simp; done) | (simp; omega)) _)

set_option maxRecDepth 100000 in
set_option maxHeartbeats 1000000 in
theorem law_one (name text : ByteArray) (mode : Int) (w : World) (h0 : 0 ≤ mode) (h1 : mode ≤ 255) (hm : mode % 3 = 1) :
    Calls Ybaf.prog 3 #[.string name, .int .u8 mode, .string text] w fun e w' => e = .returned (.bool true) ∧ Below w.heap.size w w' := by
  have mE := methodErr
  go_enter Ybaf.func3, Ybaf.ntmps3
  go_wp2
  go_ret
  refine ⟨rfl, ?_⟩

  repeat (first | exact Below.refl _ _ | refine Below.drew ?_ | refine Below.setCell ?_ (by first | (simp; done) | (simp; omega)) _ | refine Below.alloc ?_ (by first | (simp; done) | (simp; omega)) _)

set_option maxRecDepth 100000 in
set_option maxHeartbeats 1000000 in
theorem law_two (F : Interp) (name text : ByteArray) (mode : Int) (w : World) (hF : F.answers w.tape) (h0 : 0 ≤ mode) (h1 : mode ≤ 255) (hm : mode % 3 = 2) :
    Calls Ybaf.prog 3 #[.string name, .int .u8 mode, .string text] w fun e w' => e = .returned (.bool true) ∧ Below w.heap.size w w' := by
  have mE := methodErr
  have hF' := answers_open hF
  have hop := fun (o1 o2 o3 : Obj) => opPlain49_119w "fmt.errorf" ⟨w.heap.size, 0, none⟩ text ((((w.alloc (.cells #[.string text] 51)).alloc o1).alloc o2).alloc o3) (by go_simp)
  have hty := fun (wx : World) (vx vy : Value) => neq_types 59 49 vx vy (by decide) wx
  go_enter Ybaf.func3, Ybaf.ntmps3
  go_wp2_with (first | (go_at_call 6; refine (is_wrap_same _ 0 _ _ ?_).mono ?_; go_simp; rintro e w' ⟨rfl, rfl⟩) | go_in)
  go_ret
  refine ⟨rfl, ?_⟩
  repeat (first | exact Below.refl _ _ | refine Below.drew ?_ | refine Below.setCell ?_ (by first | (simp; done) | (simp; omega)) _ | refine Below.alloc ?_ (by first | (simp; done) | (simp; omega)) _)

end Go.Proofs.YbulkbtikFmt

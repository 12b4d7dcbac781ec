import Derived.Test.YbulkbtqmUp
namespace Go.Proofs.Ybulkbtqm
open Go.RowKit
set_option linter.unusedVariables false

def upd (T : Nat → TD) (r : Nat) (d : TD) (i : Nat) : TD := if i = r then d else T i
theorem upd_same (T : Nat → TD) (r : Nat) (d : TD) : upd T r d r = d := if_pos rfl
theorem upd_other (T : Nat → TD) (r : Nat) (d : TD) {i : Nat} (h : i ≠ r) : upd T r d i = T i := if_neg h

/-- w' is w but for the blocks a and b. -/
structure Two (w w' : World) (a b : Nat) : Prop where
  os : w'.os = w.os
  tape : w'.tape = w.tape
  output : w'.output = w.output
  size : w'.heap.size = w.heap.size
  block : ∀ k, k ≠ a → k ≠ b → w'.heap[k]? = w.heap[k]?
theorem Two.refl (w : World) (a b : Nat) : Two w w a b := ⟨rfl, rfl, rfl, rfl, fun _ _ _ => rfl⟩
theorem Two.trans {w w' w'' : World} {a b : Nat} (h : Two w w' a b) (k : Two w' w'' a b) : Two w w'' a b :=
  ⟨k.os.trans h.os, k.tape.trans h.tape, k.output.trans h.output, k.size.trans h.size, fun i x y => (k.block i x y).trans (h.block i x y)⟩
theorem Two.drewN {w w' : World} {a b : Nat} (h : Two w w' a b) (n : Nat) : Two w (w'.drewN n) a b := ⟨h.os, h.tape, h.output, h.size, h.block⟩
theorem Two.setA {w w' : World} {a b : Nat} (h : Two w w' a b) (i : Nat) (v : Value) : Two w (w'.setCell ⟨a, i, none⟩ v) a b :=
  h.trans ⟨rfl, rfl, rfl, by simp, fun k x _ => Below.heap_setCell _ _ _ _ x⟩
theorem Two.setB {w w' : World} {a b : Nat} (h : Two w w' a b) (i : Nat) (v : Value) : Two w (w'.setCell ⟨b, i, none⟩ v) a b :=
  h.trans ⟨rfl, rfl, rfl, by simp, fun k _ y => Below.heap_setCell _ _ _ _ y⟩
theorem Two.cell {w w' : World} {a b : Nat} (h : Two w w' a b) {p : Addr} (h1 : p.block ≠ a) (h2 : p.block ≠ b) : w'.cell? p = w.cell? p := World.cell?_of_block (h.block _ h1 h2)
theorem Two.below {w w' : World} {a b B : Nat} (h : Two w w' a b) (h1 : B ≤ a) (h2 : B ≤ b) : Below B w w' :=
  ⟨h.os, h.tape, h.output, Nat.le_of_eq h.size.symm, fun k hk => h.block k (by omega) (by omega)⟩

section
variable {w : World} {SB n : Nat} {g sh : Nat → Nat} {rm : Nat → Bool} {T : Nat → TD}
theorem slot_upd (r : Nat) (d : TD) (j : Nat) (h : j / 36 ≠ r ∨ (j % 36 ≠ 28 ∧ j % 36 ≠ 29 ∧ j % 36 ≠ 30 ∧ j % 36 ≠ 31 ∧ j % 36 ≠ 32)) : slotF g sh rm (upd T r d) j = slotF g sh rm T j := by
  unfold slotF
  rcases h with h | ⟨h1, h2, h3, h4, h5⟩
  · unfold slotCell
    rw [upd_other T r d h]
  · generalize j % 36 = c at *
    unfold slotCell
    split <;> first | rfl | omega

theorem rowIs_l (h : w.rowIs SB 40 (n * 36) (slotF g sh rm T)) (r : Nat) (l : Int) : (w.setCell ⟨SB, r * 36 + 28, none⟩ (.int .i32 l)).rowIs SB 40 (n * 36) (slotF g sh rm (upd T r { T r with l := l })) := by
  refine (h.set (r * 36 + 28) (.int .i32 l)).congr fun j hj => ?_
  by_cases e : j = r * 36 + 28
  · subst e
    rw [if_pos rfl]
    unfold slotF
    rw [show (r * 36 + 28) / 36 = r by omega, show (r * 36 + 28) % 36 = 28 by omega]
    simp only [slotCell, upd_same]
  · rw [if_neg e]
    unfold slotF
    by_cases c : j / 36 = r
    · have h28 : j % 36 ≠ 28 := by omega
      rw [c]
      generalize j % 36 = m at *
      unfold slotCell
      rw [upd_same]
      split <;> first | rfl | omega
    · unfold slotCell
      rw [upd_other T r _ c]

theorem rowIs_r (h : w.rowIs SB 40 (n * 36) (slotF g sh rm T)) (r : Nat) (l : Int) : (w.setCell ⟨SB, r * 36 + 29, none⟩ (.int .i32 l)).rowIs SB 40 (n * 36) (slotF g sh rm (upd T r { T r with r := l })) := by
  refine (h.set (r * 36 + 29) (.int .i32 l)).congr fun j hj => ?_
  by_cases e : j = r * 36 + 29
  · subst e
    rw [if_pos rfl]
    unfold slotF
    rw [show (r * 36 + 29) / 36 = r by omega, show (r * 36 + 29) % 36 = 29 by omega]
    simp only [slotCell, upd_same]
  · rw [if_neg e]
    unfold slotF
    by_cases c : j / 36 = r
    · have h28 : j % 36 ≠ 29 := by omega
      rw [c]
      generalize j % 36 = m at *
      unfold slotCell
      rw [upd_same]
      split <;> first | rfl | omega
    · unfold slotCell
      rw [upd_other T r _ c]

theorem rowIs_sums (h : w.rowIs SB 40 (n * 36) (slotF g sh rm T)) (r a b x : Nat) : (((w.setCell ⟨SB, r * 36 + 30, none⟩ (.int .i64 a)).setCell ⟨SB, r * 36 + 31, none⟩ (.int .i64 b)).setCell ⟨SB, r * 36 + 32, none⟩ (.int .u64 x)).rowIs SB 40 (n * 36) (slotF g sh rm (upd T r { T r with i := a, v := b, x := x })) := by
  refine (((h.set (r * 36 + 30) (.int .i64 a)).set (r * 36 + 31) (.int .i64 b)).set (r * 36 + 32) (.int .u64 x)).congr fun j hj => ?_
  unfold slotF
  by_cases c : j / 36 = r
  · have e : j = r * 36 + j % 36 := by omega
    have hm : j % 36 < 36 := Nat.mod_lt _ (by omega)
    rw [c]
    generalize j % 36 = m at *
    subst e
    by_cases e0 : m = 32
    · subst e0; rw [if_pos rfl]; simp only [slotCell, upd_same]
    by_cases e1 : m = 31
    · subst e1; rw [if_neg (by omega), if_pos rfl]; simp only [slotCell, upd_same]
    by_cases e2 : m = 30
    · subst e2; rw [if_neg (by omega), if_neg (by omega), if_pos rfl]; simp only [slotCell, upd_same]
    rw [if_neg (by omega), if_neg (by omega), if_neg (by omega)]
    unfold slotCell
    rw [upd_same]
    split <;> first | rfl | omega
  · rw [if_neg (by omega), if_neg (by omega), if_neg (by omega)]
    unfold slotCell
    rw [upd_other T r _ c]

theorem rowCell (h : w.rowIs SB 40 (n * 36) (slotF g sh rm T)) {i : Nat} (hi : i < n) (c : Nat) (hc : c < 36) :
    w.cell? ⟨SB, i * 36 + c, none⟩ = some (slotCell g sh rm T i c) := by
  rw [h.cell (by omega)]
  unfold slotF
  rw [show (i * 36 + c) / 36 = i by omega, show (i * 36 + c) % 36 = c by omega]
end
end Go.Proofs.Ybulkbtqm

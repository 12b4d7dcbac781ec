import Derived.Test.YbulkbtikRouse
import Derived.Deep.MidRow
import Derived.Deep.CutBlock
import Derived.Deep.DeepCutAuto
import Derived.WalkLawsBesides
namespace Go.Proofs.Ybulkbtik
open Go.RowKit
set_option linter.unusedVariables false

theorem rangeAt_new (w : World) (c : Array Value) (t : TypeId) (n : Nat) (hn : n = w.heap.size) : (w.alloc (.cells c t)).rangeAt n 0 c.toList := by
  subst hn
  intro j v hj
  have h : c[j]? = some v := by simpa using hj
  rw [Nat.zero_add]
  go_simp

theorem there_new (w : World) (c : Array Value) (t : TypeId) (n m : Nat) (hm : m = w.heap.size) (h : n ≤ c.size) : (w.alloc (.cells c t)).there m 0 n := by
  subst hm
  intro j hj
  obtain ⟨v, hv⟩ : ∃ v, c[j]? = some v := ⟨c[j]'(by omega), by simp⟩
  rw [Nat.zero_add]
  refine ⟨?_, ?_⟩
  · have : (w.alloc (.cells c t)).cell? ⟨w.heap.size, j, none⟩ = some v := by go_simp
    rw [this]; rfl
  · go_simp

theorem results_one {fn : Func} {p : Tmp} {ty : TypeId} (h : fn.results = #[.cell p ty]) {tmps : Array Value} {P : Program} {w : World} {b o : Nat} {v : Value} (hp : tmps.getD p undef = .pointer (some ⟨b, o, none⟩))
    (hl : (loadVar ty ⟨b, o, none⟩).run P w = .ok v w) : (results fn tmps).run P w = .ok v w := by
  have hp' : tmps[p]?.getD undef = .pointer (some ⟨b, o, none⟩) := by simpa using hp
  simp only [results, h]
  simp [asAddr, hp', hl]

theorem below_setCells {B : Nat} {a : World} (b : Nat) (hb : B ≤ b) : ∀ (vs : List Value) (o : Nat) {w : World}, Below B a w → Below B a (w.setCells b o vs)
  | [], _, _, h => h
  | v :: r, o, _, h => below_setCells b hb r (o + 1) (h.setCell (p := ⟨b, o, none⟩) hb v)

theorem below_more {w X w' : World} (h : Below w.heap.size w X) (hB : Below X.heap.size X w') : Below w.heap.size w w' := h.trans (hB.mono h.size)

theorem cell_stays {w w' : World} (hB : Below w.heap.size w w') {a : Addr} {v : Value} (h : w.cell? a = some v) : w'.cell? a = some v :=
  (hB.cell (World.block_lt_of_cell? _ _ h)).trans h

theorem cell_setCells_far {w : World} {b o : Nat} {vs : List Value} {x : Addr} {v : Value} (hne : x.block ≠ b) (h : w.cell? x = some v) : (w.setCells b o vs).cell? x = some v :=
  (World.cell?_setCells_out b vs o w x (fun e => absurd e hne)).trans h

theorem rangeAt_below {w w' : World} {b o : Nat} {cs : List Value} (h : w.rangeAt b o cs) (hB : Below w.heap.size w w') : w'.rangeAt b o cs := fun j v hv => cell_stays hB (h j v hv)

theorem there_of_row {w : World} {b : Nat} {t : TypeId} {n : Nat} {f : Nat → Value} (h : w.rowIs b t n f) (o m : Nat) (hm : o + m ≤ n) : w.there b o m := by
  intro j hj
  refine ⟨?_, h.frozen _⟩
  rw [h.cell (by omega)]; rfl

theorem row_setCells {b : Nat} {t : TypeId} {n : Nat} : ∀ (vs : List Value) (o : Nat) {w : World} {f : Nat → Value}, w.rowIs b t n f → (w.setCells b o vs).rowIs b t n (fun k => if o ≤ k ∧ k < o + vs.length then vs[k - o]?.getD undef else f k)
  | [], o, w, f, h => h.congr fun i hi => by rw [if_neg (by rw [List.length_nil]; omega)]
  | v :: r, o, w, f, h => by
    refine (row_setCells r (o + 1) (h.set o v)).congr fun k hk => ?_
    by_cases c : k = o
    · subst c
      rw [if_neg (by omega), if_pos rfl, if_pos (by simp)]
      simp
    · by_cases c1 : o + 1 ≤ k ∧ k < o + 1 + r.length
      · rw [if_pos c1, if_pos (by simp; omega)]
        rw [show k - o = (k - (o + 1)) + 1 by omega]
        simp
      · rw [if_neg c1, if_neg c, if_neg (by simp; omega)]

theorem results_two {fn : Func} {p q : Tmp} {ty : TypeId} (h : fn.results = #[.cell p ty, .tmp q]) {tmps : Array Value} {P : Program} {w : World} {b o : Nat} {v u : Value} (hp : tmps.getD p undef = .pointer (some ⟨b, o, none⟩)) (hq : tmps.getD q undef = u)
    (hl : (loadVar ty ⟨b, o, none⟩).run P w = .ok v w) : (results fn tmps).run P w = .ok (.tuple #[v, u]) w := by
  have hp' : tmps[p]?.getD undef = .pointer (some ⟨b, o, none⟩) := by simpa using hp
  have hq' : tmps[q]?.getD undef = u := by simpa using hq
  simp only [results, h]
  simp [asAddr, hp', hq', hl]

theorem info67 : (Yba.prog.info? 67).map (·.size) = some 4 := by kernel_rfl
theorem info69 : (Yba.prog.info? 69).map (·.size) = some 6 := by kernel_rfl
theorem info127 : (Yba.prog.info? 127).map (·.size) = some 5 := by kernel_rfl
theorem info79 : (Yba.prog.info? 79).map (·.size) = some 10 := by kernel_rfl

end Go.Proofs.Ybulkbtik

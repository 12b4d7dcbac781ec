import Derived.Test.YbulkbtikNotify
namespace Go.Proofs.Ybulkbtik
open Go.Conc Go.RowKit Go.MuLone
set_option linter.unusedVariables false

def wkOn (f : Nat → Value) : Nat → Value := fun j => if j = 3 then .bool true else if j = 4 then .int .u32 1 else f j
def runOn (g : Nat → Value) (x : Int) : Nat → Value := fun j => if j = 143 then .int .i64 x else g j

structure Roused (w w' : World) (wb rb cb : Nat) (f g : Nat → Value) (x : Int) : Prop where
  wk : w'.rowIs wb 57 279 (wkOn f)
  rn : w'.rowIs rb 106 307 (runOn g x)
  ch : w'.heap[cb]? = some (.chan 1 #[.agg #[]] false 1 0 false)
  size : w'.heap.size = w.heap.size
  block : ∀ b, b ≠ wb → b ≠ rb → b ≠ cb → w'.heap[b]? = w.heap[b]?
  bel : ∀ B, B ≤ wb → B ≤ rb → B ≤ cb → Below B w w'

theorem heap_setChan_other (w : World) (c k cap : Nat) (buf : Array Value) (cl : Bool) (s r : Nat) (tm : Bool) (h : k ≠ c) : (w.setChan c cap buf cl s r tm).heap[k]? = w.heap[k]? := by
  simp only [World.setChan, Array.getElem?_setIfInBounds]
  rw [if_neg (by omega)]

/-- Of old blocks only a and b may have turned; none is new. -/
structure Twixt (w w' : World) (a b : Nat) : Prop where
  size : w'.heap.size = w.heap.size
  block : ∀ k, k ≠ a → k ≠ b → w'.heap[k]? = w.heap[k]?
  bel : ∀ B, B ≤ a → B ≤ b → Below B w w'
theorem Twixt.refl (w : World) (a b : Nat) : Twixt w w a b := ⟨rfl, fun _ _ _ => rfl, fun _ _ _ => Below.refl _ _⟩
theorem Twixt.setA {w w' : World} {a b : Nat} (h : Twixt w w' a b) (i : Nat) (v : Value) : Twixt w (w'.setCell ⟨a, i, none⟩ v) a b :=
  ⟨by simp [h.size], fun k h1 h2 => (Below.heap_setCell _ _ _ _ h1).trans (h.block k h1 h2), fun B h1 h2 => (h.bel B h1 h2).setCell h1 _⟩
theorem Twixt.setB {w w' : World} {a b : Nat} (h : Twixt w w' a b) (i : Nat) (v : Value) : Twixt w (w'.setCell ⟨b, i, none⟩ v) a b :=
  ⟨by simp [h.size], fun k h1 h2 => (Below.heap_setCell _ _ _ _ h2).trans (h.block k h1 h2), fun B h1 h2 => (h.bel B h1 h2).setCell h2 _⟩
theorem Twixt.drew {w w' : World} {a b : Nat} (h : Twixt w w' a b) : Twixt w w'.drew a b := ⟨h.size, h.block, fun B h1 h2 => (h.bel B h1 h2).drew⟩

theorem lt_of_chan {w : World} {c : Nat} {o : Obj} (h : w.heap[c]? = some o) : c < w.heap.size := (Array.getElem?_eq_some_iff.1 h).1
theorem roused {w w5 : World} {wb rb cb : Nat} {f g : Nat → Value} {x : Int} (ht : Twixt w w5 wb rb) (hn1 : wb ≠ cb) (hn2 : rb ≠ cb) (hlt : cb < w.heap.size)
    (hf : w5.rowIs wb 57 279 (wkOn f)) (hg : w5.rowIs rb 106 307 (runOn g x)) : Roused w (w5.setChan cb 1 #[.agg #[]] false (0 + 1) 0 false) wb rb cb f g x where
  wk := hf.of_block (heap_setChan_other _ _ _ _ _ _ _ _ _ hn1)
  rn := hg.of_block (heap_setChan_other _ _ _ _ _ _ _ _ _ hn2)
  ch := heap_setChan _ _ _ _ _ _ _ _ (by rw [ht.size]; exact hlt)
  size := (size_setChan _ _ _ _ _ _ _ _).trans ht.size
  block := fun b h1 h2 h3 => (heap_setChan_other _ _ _ _ _ _ _ _ _ h3).trans (ht.block b h1 h2)
  bel := fun B h1 h2 h3 => below_setChan (ht.bel B h1 h2) h3 _ _ _ _ _ _

set_option maxHeartbeats 1000000 in
theorem rouse_any {w : World} {wb rb cb : Nat} {f g : Nat → Value} {x : Int} {woken : Bool}
    (hf : w.rowIs wb 57 279 f) (hg : w.rowIs rb 106 307 g) (hc : w.heap[cb]? = some (.chan 1 #[] false 0 0 false))
    (f0 : f 0 = .int .i32 0) (f3 : f 3 = .bool woken) (f4 : f 4 = .int .u32 (bit woken)) (f5 : f 5 = .chan (some cb)) (f134 : f 134 = .pointer (some ⟨rb, 0, none⟩)) (g143 : g 143 = .int .i64 x)
    (hx : 0 ≤ x ∧ x ≤ 5000) (hne : wb ≠ rb) (hn1 : wb ≠ cb) (hn2 : rb ≠ cb) :
    Calls Yba.prog 19 #[.pointer (some ⟨wb, 0, none⟩)] w fun e w' => e = .returned (.tuple #[]) ∧ Roused w w' wb rb cb f g (x + (if woken then 0 else 1)) := by
  have HC := hide hc
  clear hc
  go_enter Yba.func19, Yba.ntmps19
  go_wp2_with fail
  refine (lock_free muLib ⟨wb, 0, none⟩ _ ((hf.cell (by omega)).trans (by rw [f0])) (hf.frozen 0)).mono ?_
  rintro e w1 ⟨rfl, hw1⟩
  have hf1 := hf.set 0 (.int .i32 1)
  have hg1 := hg.setOther (a := ⟨wb, 0, none⟩) (Ne.symm hne) (.int .i32 1)
  have ht1 := (Twixt.refl w wb rb).setA 0 (.int .i32 1)
  rw [← hw1] at hf1 hg1 ht1
  clear hw1
  have c3 : w1.cell? ⟨wb, 3, none⟩ = some (.bool woken) := (hf1.cell (by omega)).trans (by simp [f3])
  cases woken
  · have c134 : w1.cell? ⟨wb, 134, none⟩ = some (.pointer (some ⟨rb, 0, none⟩)) := (hf1.cell (by omega)).trans (by simp [f134])
    go_wp2_with fail
    refine (iadd_any rb 143 x _ hx ((hg1.cell (by omega)).trans (by rw [g143])) (hg1.frozen 143)).mono ?_
    rintro e w2 ⟨rfl, hw2⟩
    have hg2 := hg1.set 143 (.int .i64 (x + 1))
    have hf2 := hf1.setOther (a := ⟨rb, 143, none⟩) hne (.int .i64 (x + 1))
    have ht2 := ht1.setB 143 (.int .i64 (x + 1))
    rw [← hw2] at hf2 hg2 ht2
    clear hw2
    have d3 : w2.cell? ⟨wb, 3, none⟩ = some (.bool false) := (hf2.cell (by omega)).trans (by simp [f3])
    have z3 := hf2.frozen 3
    go_wp2_with fail
    have hf3 := hf2.set 3 (.bool true)
    refine (bstore_any wb 4 true _ _ (hf3.cell (by omega)) (hf3.frozen 4)).mono ?_
    rintro e w4 ⟨rfl, hw4⟩
    have hf4 := (hf3.set 4 (.int .u32 (bit true))).drew
    have hg4 := ((hg2.setOther (a := ⟨wb, 3, none⟩) (Ne.symm hne) (.bool true)).setOther (a := ⟨wb, 4, none⟩) (Ne.symm hne) (.int .u32 (bit true))).drew
    have ht4 := ((ht2.setA 3 (.bool true)).setA 4 (.int .u32 (bit true))).drew
    rw [← hw4] at hf4 hg4 ht4
    clear hw4
    go_wp2_with fail
    refine (unlock_held muLib ⟨wb, 0, none⟩ _ ((hf4.cell (by omega)).trans (by simp)) (hf4.frozen 0)).mono ?_
    rintro e w5 ⟨rfl, hw5⟩
    have hf5 := hf4.set 0 (.int .i32 0)
    have hg5 := hg4.setOther (a := ⟨wb, 0, none⟩) (Ne.symm hne) (.int .i32 0)
    have ht5 := ht4.setA 0 (.int .i32 0)
    rw [← hw5] at hf5 hg5 ht5
    clear hw5
    go_wp2_with fail
    refine (notify_room wb 0 cb 0 0 false _ ((hf5.cell (by omega)).trans (by simp [f5])) ((ht5.block cb (Ne.symm hn1) (Ne.symm hn2)).trans (unhide HC))).mono ?_
    rintro e w6 ⟨rfl, rfl⟩
    go_wp2_with fail
    go_end0
    refine ⟨rfl, roused ht5 hn1 hn2 (by have := unhide HC; exact lt_of_chan this) (hf5.congr fun j hj => ?_) (hg5.congr fun j hj => ?_)⟩
    · simp only [wkOn]
      by_cases j0 : j = 0
      · simp [j0, f0]
      · by_cases j3 : j = 3
        · simp [j3]
        · simp [j0, j3, bit]
    · simp [runOn]
  · go_wp2_with fail
    refine (unlock_held muLib ⟨wb, 0, none⟩ _ ((hf1.cell (by omega)).trans (by simp)) (hf1.frozen 0)).mono ?_
    rintro e w5 ⟨rfl, hw5⟩
    have hf5 := hf1.set 0 (.int .i32 0)
    have hg5 := hg1.setOther (a := ⟨wb, 0, none⟩) (Ne.symm hne) (.int .i32 0)
    have ht5 := ht1.setA 0 (.int .i32 0)
    rw [← hw5] at hf5 hg5 ht5
    clear hw5
    go_wp2_with fail
    refine (notify_room wb 0 cb 0 0 false _ ((hf5.cell (by omega)).trans (by simp [f5])) ((ht5.block cb (Ne.symm hn1) (Ne.symm hn2)).trans (unhide HC))).mono ?_
    rintro e w6 ⟨rfl, rfl⟩
    go_wp2_with fail
    go_end0
    refine ⟨rfl, roused ht5 hn1 hn2 (by have := unhide HC; exact lt_of_chan this) (hf5.congr fun j hj => ?_) (hg5.congr fun j hj => ?_)⟩
    · simp only [wkOn]
      by_cases j0 : j = 0
      · simp [j0, f0]
      · by_cases j3 : j = 3
        · simp [j3, f3]
        · by_cases j4 : j = 4
          · simp [j4, f4, bit]
          · simp [j0, j3, j4]
    · simp only [runOn]; by_cases j0 : j = 143 <;> simp [j0, g143]
end Go.Proofs.Ybulkbtik

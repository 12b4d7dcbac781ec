import Derived.Test.YbulkbtikRes
namespace Go.Proofs.Ybulkbtik
open Go.Conc Go.RowKit Go.MuLone
set_option linter.unusedVariables false
set_option linter.unusedSimpArgs false

/-- The run at rb, its row of workers at sb, the workers behind one another from lo 0 on. -/
structure Grp (w : World) (rb sb n : Nat) (lo : Nat → Nat) (has woken : Nat → Bool) (x : Nat → Int) (fresh : Nat → Bool) (g : Nat → Value) : Prop where
  run : w.rowIs rb 106 307 g
  g14 : g 14 = .slice (some ⟨sb, 0, none⟩) n n
  ws : w.rowIs sb 24 n (fun k => .pointer (some ⟨lo k + 1, 0, none⟩))
  rbsb : rb < sb
  sblo : sb < lo 0
  top : lo n ≤ w.heap.size
  wk : ∀ k, k < n → ∃ f, Wk w rb (lo k) (lo (k + 1)) (has k) (x k) (woken k) (fresh k) f

theorem lo_le {n : Nat} {lo : Nat → Nat} (h : ∀ k, k < n → lo k < lo (k + 1)) : ∀ {i j : Nat}, i ≤ j → j ≤ n → lo i ≤ lo j := by
  intro i j hij
  induction hij with
  | refl => exact fun _ => Nat.le_refl _
  | step _ ih => exact fun hj => Nat.le_trans (ih (by omega)) (Nat.le_of_lt (h _ (by omega)))

theorem Grp.mono {w : World} {rb sb n : Nat} {lo : Nat → Nat} {has woken : Nat → Bool} {x : Nat → Int} {fresh : Nat → Bool} {g : Nat → Value} (h : Grp w rb sb n lo has woken x fresh g) : ∀ k, k < n → lo k < lo (k + 1) := fun k hk => by
  obtain ⟨f, hf⟩ := h.wk k hk
  have := hf.lt
  omega
theorem Grp.le {w : World} {rb sb n : Nat} {lo : Nat → Nat} {has woken : Nat → Bool} {x : Nat → Int} {fresh : Nat → Bool} {g : Nat → Value} (h : Grp w rb sb n lo has woken x fresh g) {i j : Nat} (hij : i ≤ j) (hj : j ≤ n) : lo i ≤ lo j := lo_le h.mono hij hj

def wokenAt (may woken : Nat → Bool) (i : Nat) : Nat → Bool := fun k => if k < i then woken k || may k else woken k

/-- What holds at the head of resume's round i. -/
def ResAt (w wr : World) (rb sb n : Nat) (lo : Nat → Nat) (has woken may : Nat → Bool) (x : Nat → Int) (g : Nat → Value) (i : Nat) : Prop :=
  Grp wr rb sb n lo has (wokenAt may woken i) x (fun k => decide (i ≤ k)) (runOn g (cntU may woken i : Nat)) ∧ Below rb w wr

theorem ResAt.skip {w wr w1 : World} {rb sb n : Nat} {lo : Nat → Nat} {has woken may : Nat → Bool} {x : Nat → Int} {g : Nat → Value} {i : Nat} (h : ResAt w wr rb sb n lo has woken may x g i) (hi : i < n) (hm : may i = false) (hB : Below wr.heap.size wr w1) :
    ResAt w w1 rb sb n lo has woken may x g (i + 1) := by
  obtain ⟨hG, hb⟩ := h
  have hc : cntU may woken (i + 1) = cntU may woken i := by simp [cntU, hm]
  have hrl : rb < wr.heap.size := hG.run.lt
  refine ⟨⟨?_, by simp [runOn, hG.g14, show g 14 = .slice (some ⟨sb, 0, none⟩) n n from by have := hG.g14; simpa [runOn] using this], hG.ws.of_block (hB.block _ hG.ws.lt), hG.rbsb, hG.sblo, Nat.le_trans hG.top hB.size, fun k hk => ?_⟩, hb.trans (hB.mono (by omega))⟩
  · rw [hc]; exact hG.run.of_block (hB.block _ hrl)
  · obtain ⟨f, hf⟩ := hG.wk k hk
    have hU : lo (k + 1) ≤ lo n := hG.le (by omega) (Nat.le_refl _)
    have hf' := hf.stays (w' := w1) fun j _ hj => hB.block j (by have := hG.top; omega)
    refine ⟨f, ?_⟩
    have e1 : wokenAt may woken (i + 1) k = wokenAt may woken i k := by
      unfold wokenAt
      by_cases c : k < i
      · rw [if_pos c, if_pos (by omega)]
      · by_cases c2 : k = i
        · subst c2; rw [if_pos (by omega), if_neg (by omega), hm, Bool.or_false]
        · rw [if_neg (by omega), if_neg c]
    rw [e1]
    by_cases c : i + 1 ≤ k
    · have : decide (i + 1 ≤ k) = decide (i ≤ k) := by simp [c]; omega
      rw [this]; exact hf'
    · simp only [c, decide_false]; exact hf'.stale

theorem ResAt.rouse {w wr w1 w2 : World} {rb sb n : Nat} {lo : Nat → Nat} {has woken may : Nat → Bool} {x : Nat → Int} {g f : Nat → Value} {i : Nat} (h : ResAt w wr rb sb n lo has woken may x g i) (hi : i < n) (hm : may i = true) (hB : Below wr.heap.size wr w1)
    (hf : Wk w1 rb (lo i) (lo (i + 1)) (has i) (x i) (woken i) true f) (hR : Roused w1 w2 (lo i + 1) rb (lo i) f (runOn g (cntU may woken i : Nat)) ((cntU may woken i : Nat) + (if woken i then 0 else 1))) :
    ResAt w w2 rb sb n lo has woken may x g (i + 1) := by
  obtain ⟨hG, hb⟩ := h
  have hrl : rb < wr.heap.size := hG.run.lt
  have h0i : lo 0 ≤ lo i := hG.le (Nat.zero_le _) (by omega)
  have hsb := hG.sblo
  have hrs := hG.rbsb
  have hc : ((cntU may woken (i + 1) : Nat) : Int) = (cntU may woken i : Nat) + (if woken i then 0 else 1) := by
    simp only [cntU, hm]
    cases woken i <;> simp
  have hst := fun j (hj : j < wr.heap.size) (h1 : j ≠ lo i + 1) (h2 : j ≠ rb) (h3 : j ≠ lo i) => (hR.block j h1 h2 h3).trans (hB.block j hj)
  refine ⟨⟨?_, by simp [runOn, show g 14 = .slice (some ⟨sb, 0, none⟩) n n from by have := hG.g14; simpa [runOn] using this], ?_, hG.rbsb, hG.sblo, ?_, fun k hk => ?_⟩, ?_⟩
  · rw [hc]
    refine hR.rn.congr fun j hj => ?_
    simp only [runOn]
    split <;> rfl
  · exact hG.ws.of_block (hst sb hG.ws.lt (by omega) (by omega) (by omega))
  · rw [hR.size]; exact Nat.le_trans hG.top hB.size
  · by_cases c2 : k = i
    · subst c2
      refine ⟨wkOn f, ?_⟩
      have e1 : wokenAt may woken (k + 1) k = true := by simp [wokenAt, hm]
      have e2 : decide (k + 1 ≤ k) = false := by simp
      rw [e1, e2]
      exact hf.roused hR (by omega)
    · obtain ⟨f', hf'⟩ := hG.wk k hk
      have hU : lo (k + 1) ≤ lo n := hG.le (by omega) (Nat.le_refl _)
      have h0k : lo 0 ≤ lo k := hG.le (Nat.zero_le _) (by omega)
      have hfar : ∀ j, lo k ≤ j → j < lo (k + 1) → w2.heap[j]? = wr.heap[j]? := fun j h1 h2 => by
        have hdis : j < lo i ∨ lo (i + 1) ≤ j := by
          by_cases c : k < i
          · have := hG.le (i := k + 1) (j := i) (by omega) (by omega); left; omega
          · have := hG.le (i := i + 1) (j := k) (by omega) (by omega); right; omega
        have hl := hf.lt
        exact hst j (by have := hG.top; omega) (by omega) (by omega) (by omega)
      have hf2 := hf'.stays hfar
      have e1 : wokenAt may woken (i + 1) k = wokenAt may woken i k := by
        unfold wokenAt
        by_cases c : k < i
        · rw [if_pos c, if_pos (by omega)]
        · rw [if_neg (by omega), if_neg c]
      refine ⟨f', ?_⟩
      rw [e1]
      by_cases c : i + 1 ≤ k
      · have : decide (i + 1 ≤ k) = decide (i ≤ k) := by simp [c]; omega
        rw [this]; exact hf2
      · simp only [c, decide_false]; exact hf2.stale
  · exact hb.trans ((hB.mono (by omega)).trans (hR.bel rb (by omega) (Nat.le_refl _) (by omega)))

end Go.Proofs.Ybulkbtik

import Derived.Test.YbulkbtkoGreatFmtAq
namespace Go.Proofs.YbulkbtkoGreatFmt
open Go.RowKit
set_option linter.unusedVariables false
set_option linter.unusedSimpArgs false

theorem buildAsk (s : Int) (ka : Option Addr) (kn kc : Nat) (w : World) : (Instr.build 37 #[(0, .int .u8 7), (4, .int .i64 s), (8, .slice ka kn kc)]).run Ybaz.prog w = .ok (.agg (msgC 7 0 s ka kn kc)) w := by
  refine run_build w 37 _ _ ?_
  kernel_rfl
/-- A set with the numbers of l besides. -/
def askF (l : List Nat) (S : Int → Bool) : Int → Bool := fun i => decide (∃ j ∈ l, i = ((j : Nat) : Int)) || S i
theorem askF_nil (S : Int → Bool) : askF [] S = S := by funext i; simp [askF]
theorem askF_snoc (l : List Nat) (S : Int → Bool) (j : Nat) : (fun i => decide (i = ((j : Nat) : Int)) || askF l S i) = askF (l ++ [j]) S := by
  funext i
  by_cases c : i = ((j : Nat) : Int)
  · simp [askF, c]
  · have e : (∃ x ∈ l ++ [j], i = ((x : Nat) : Int)) ↔ ∃ x ∈ l, i = ((x : Nat) : Int) := by
      constructor
      · rintro ⟨x, hx, rfl⟩
        rcases List.mem_append.1 hx with h | h
        · exact ⟨x, h, rfl⟩
        · simp at h; subst h; exact absurd rfl c
      · rintro ⟨x, hx, rfl⟩
        exact ⟨x, by simp [hx], rfl⟩
    simp only [askF, c, decide_false, Bool.false_or, e]
theorem askF_mem {l : List Nat} {S : Int → Bool} {j : Nat} (h : j ∈ l) : askF l S ((j : Nat) : Int) = true := by
  simp only [askF, Bool.or_eq_true, decide_eq_true_eq]
  exact .inl ⟨j, h, rfl⟩
theorem askF_old {l : List Nat} {S : Int → Bool} {i : Int} (h : S i = true) : askF l S i = true := by simp [askF, h]
theorem askF_new {l : List Nat} {j : Nat} (h : j ∉ l) : askF l (fun _ => false) ((j : Nat) : Int) = false := by
  simp only [askF, Bool.or_false, decide_eq_false_iff_not]
  rintro ⟨x, hx, e⟩
  have : j = x := by omega
  exact h (this ▸ hx)

theorem AK.rebase {w wS : World} {P : APar} {F rr : Nat → Value} {nl : List Nat} {askS awS : Int → Bool} {na nw m : Nat} (h : AK w wS P F rr nl askS awS na nw m []) (hlv : P.lv0 = .slice none 0 0) (lg : LogAt wS P.lgb [] P.lv0) : AK wS wS P F rr nl askS awS na nw m [] := by
  have hsz := h.fr.size
  have hl0 : ob P.lv0 = [] := by rw [hlv]; rfl
  exact { h with
    st := { h.st with lt := fun g hg => Nat.lt_of_lt_of_le (h.st.lt g hg) hsz, lv := fun g hg => Nat.lt_of_lt_of_le (h.st.lv g hg) hsz }
    log := ⟨P.lv0, lg, by rw [hl0]; simp⟩
    fr := Fr.refl _ _ }
theorem AK.unbase {w wS w' : World} {P : APar} {F rr F0 rr0 : Nat → Value} {nl nl0 : List Nat} {askS awS a0 b0 : Int → Bool} {na nw m c0 d0 e0 : Nat} {L L0 : List LogE} (h : AK wS w' P F rr nl askS awS na nw m L) (h0 : AK w wS P F0 rr0 nl0 a0 b0 c0 d0 e0 L0) : AK w w' P F rr nl askS awS na nw m L := by
  have hsz := h0.fr.size
  obtain ⟨lv, h1, h2⟩ := h.log
  exact { h with
    st := h0.st
    log := ⟨lv, h1, fun g hg => by
      rcases h2 g hg with e | e
      · exact .inl e
      · exact .inr (by omega)⟩
    fr := h0.fr.trans h.fr }

/-- The sending so far. -/
def A4 (wS wr : World) (P : APar) (F rr : Nat → Value) (nl qs : List Nat) (askS : Int → Bool) (ka : Option Addr) (kn kc k : Nat) : Prop := ∃ na m, m ≤ 2100 + 2 * k ∧ AK wS wr P F rr nl (askF (qs.take k) askS) (askF (qs.take k) (fun _ => false)) na k m ((qs.take k).map fun j => (⟨((j : Nat) : Int), 7, 0, ((P.X.s : Nat) : Int), ka, kn, kc⟩ : LogE))
theorem A4.fr {wS wr : World} {P : APar} {F rr : Nat → Value} {nl qs : List Nat} {askS : Int → Bool} {ka : Option Addr} {kn kc k : Nat} (h : A4 wS wr P F rr nl qs askS ka kn kc k) : Fr wS wr (P.X.nb :: P.X.jb :: P.ab :: P.zb :: P.lgb :: (ob P.v ++ ob P.lv0)) := by
  obtain ⟨na, m, _, h⟩ := h
  exact h.fr

/-- One node asked: 'asked[j] = true; awaited[j] = true; send(j, ..)'. -/
theorem A4.steps {wS wr : World} {P : APar} {F rr : Nat → Value} {nl qs : List Nat} {askS : Int → Bool} {ka : Option Addr} {kn kc k j : Nat} (h : A4 wS wr P F rr nl qs askS ka kn kc k) (hj : qs[k]? = some j) (hnd : qs.Nodup) (hjN : j < P.X.N) (hq : qs.length ≤ 901) :
    ∃ w1 w2, (Instr.mapUpdate 41 (.map (some P.ab)) (.int .i64 ((j : Nat) : Int)) (.bool true)).run Ybaz.prog wr = .ok () w1 ∧ (Instr.mapUpdate 41 (.map (some P.zb)) (.int .i64 ((j : Nat) : Int)) (.bool true)).run Ybaz.prog w1 = .ok () w2 ∧ w1.heap.size = wr.heap.size ∧ (∀ g, g ≠ P.ab → w1.heap[g]? = wr.heap[g]?) ∧ w2.heap.size = wr.heap.size ∧ (∀ g, g ≠ P.ab → g ≠ P.zb → w2.heap[g]? = wr.heap[g]?) ∧
      Calls Ybaz.prog 10 #[.int .i64 ((j : Nat) : Int), .agg (msgC 7 0 ((P.X.s : Nat) : Int) ka kn kc), .pointer (some ⟨P.lgb, 0, none⟩)] w2.drew fun r w' => r = .returned (.tuple #[]) ∧ A4 wS w' P F rr nl qs askS ka kn kc (k + 1) := by
  obtain ⟨na, m, hm, h⟩ := h
  have hkl : k < qs.length := by
    rcases Nat.lt_or_ge k qs.length with c | c
    · exact c
    · rw [List.getElem?_eq_none c] at hj; cases hj
  have ht : qs.take (k + 1) = qs.take k ++ [j] := by rw [List.take_add_one, hj]; rfl
  have hjk : j ∉ qs.take k := fun hm => by
    obtain ⟨i, hi⟩ := List.getElem?_of_mem hm
    rw [List.getElem?_take] at hi
    split at hi
    · rename_i hik
      have := (List.getElem?_inj (i := i) (j := k) (by omega) hnd).1 (hi.trans hj.symm)
      omega
    · cases hi
  obtain ⟨w1, hr1, h1, s1, b1⟩ := h.ask j hjN (by omega)
  obtain ⟨w2, hr2, h2, s2, b2⟩ := h1.await j hjN (by omega)
  rw [askF_snoc, ← ht] at h2
  rw [askF_snoc, ← ht, askF_new hjk] at h2
  have h3 := h2.keep (.of_same ((Same.refl w2).drew))
  refine ⟨w1, w2, hr1, hr2, s1, b1, s2.trans s1, fun g g1 g2 => (b2 g g2).trans (b1 g g1), (h3.send (by simp; omega) ⟨((j : Nat) : Int), 7, 0, ((P.X.s : Nat) : Int), ka, kn, kc⟩).mono ?_⟩
  rintro r w' ⟨hr, hA, _⟩
  refine ⟨hr, (if askF (qs.take k) askS ((j : Nat) : Int) = true then na else na + 1), m + 1 + 1, by omega, ?_⟩
  rw [ht, List.map_append, ← ht]
  exact hA


end Go.Proofs.YbulkbtkoGreatFmt

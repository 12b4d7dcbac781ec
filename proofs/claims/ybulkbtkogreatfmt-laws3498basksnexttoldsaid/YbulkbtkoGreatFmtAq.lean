import Derived.Test.YbulkbtkoGreatFmtAn6
namespace Go.Proofs.YbulkbtkoGreatFmt
open Go.RowKit
set_option linter.unusedVariables false
set_option linter.unusedSimpArgs false

theorem hd_len (cw id : Nat → Nat) (s : Nat) : ∀ l : List Nat, (hdsL cw id s l).length = 3 * l.length
  | [] => rfl
  | j :: l => by
    have h := hd_len cw id s l
    simp only [hdsL, List.flatMap_cons, List.length_append, List.length_cons, hdL, List.length_nil] at h ⊢
    omega
theorem hd_at {cw id : Nat → Nat} {s : Nat} : ∀ (l : List Nat) (i j : Nat), l[i]? = some j → ∀ q u, (hdL cw id s j)[q]? = some u → (hdsL cw id s l)[i * 3 + q]? = some u
  | [], i, j, h, q, u, hq => by simp at h
  | a :: l, 0, j, h, q, u, hq => by
    have e : a = j := by simpa using h
    subst e
    have hl : q < (hdL cw id s a).length := by
      rcases Nat.lt_or_ge q (hdL cw id s a).length with c | c
      · exact c
      · rw [List.getElem?_eq_none c] at hq; cases hq
    simp only [hdsL, List.flatMap_cons]
    rw [Nat.zero_mul, Nat.zero_add, List.getElem?_append_left hl]
    exact hq
  | a :: l, i + 1, j, h, q, u, hq => by
    have h' : l[i]? = some j := by simpa using h
    have ih := hd_at l i j h' q u hq
    have e3 : (hdL cw id s a).length = 3 := rfl
    simp only [hdsL, List.flatMap_cons] at ih ⊢
    rw [List.getElem?_append_right (by rw [e3]; omega), e3, show (i + 1) * 3 + q - 3 = i * 3 + q by omega]
    exact ih

/-- The nodes to ask so far. -/
structure AQ (w wr : World) (P : APar) (F rr : Nat → Value) (nl : List Nat) (askS awS : Int → Bool) (na nw m : Nat) (av : Value) (qs : List Nat) (k : Nat) : Prop where
  ak : AK w wr P F rr nl askS awS na nw m []
  lg : LogAt wr P.lgb [] P.lv0
  own : wr.ownsRow 0 3 1 av qs.length (intsL qs)
  fz : ∀ g ∈ ob av, w.heap.size ≤ g
  nd : qs.Nodup
  sub : ∀ j ∈ qs, j ∈ nl.take k ∧ askS ((j : Nat) : Int) = false
  len : qs.length ≤ k
variable {w wr w' : World} {P : APar} {F rr : Nat → Value} {nl qs : List Nat} {askS awS : Int → Bool} {na nw m k : Nat} {av : Value}
theorem AQ.keep (h : AQ w wr P F rr nl askS awS na nw m av qs k) (hf : Fr wr w' []) : AQ w w' P F rr nl askS awS na nw m av qs k :=
  { h with ak := h.ak.keep hf, lg := h.lg.fr hf (by simp) (by simp), own := own_fr h.own hf (by simp) }
theorem AQ.skip (h : AQ w wr P F rr nl askS awS na nw m av qs k) : AQ w wr P F rr nl askS awS na nw m av qs (k + 1) :=
  { h with sub := fun j hj => ⟨(List.take_subset_take_left nl (Nat.le_succ k)) (h.sub j hj).1, (h.sub j hj).2⟩, len := Nat.le_succ_of_le h.len }
theorem AQ.app (h : AQ w wr P F rr nl askS awS na nw m av qs k) (hlv : P.lv0 = .slice none 0 0) (hnl : nl.Nodup) {j g cap : Nat} (hk : nl[k]? = some j) (hj : askS ((j : Nat) : Int) = false) {o : Obj} (hF : Fr (wr.alloc o) w' (ob av)) (hg : g ∈ ob av ∨ (wr.alloc o).heap.size ≤ g)
    (hown : w'.ownsRow 0 3 1 (.slice (some ⟨g, 0, none⟩) (qs.length + 1) cap) (qs.length + 1) (intsL qs ++ [.int .i64 ((j : Nat) : Int)])) : AQ w w' P F rr nl askS awS na nw m (.slice (some ⟨g, 0, none⟩) (qs.length + 1) cap) (qs ++ [j]) (k + 1) := by
  have hsz := h.ak.fr.size
  have st := h.ak.st
  have hal : Fr wr (wr.alloc o) [] := (Fr.refl _ _).alloc _
  have A1 := h.ak.keep hal
  have L1 := h.lg.fr hal (by simp) (by simp)
  have far : ∀ g ∈ [P.X.nb, P.X.jb, P.X.qb, P.X.ib, P.X.cb, P.X.vb, P.ab, P.zb, P.lgb], g ∉ ob av := fun g hg hm => by have := st.lt g hg; have := h.fz g hm; omega
  have hl0 : ob P.lv0 = [] := by rw [hlv]; rfl
  have hkm : j ∉ nl.take k := fun hm => by
    obtain ⟨i, hi⟩ := List.getElem?_of_mem hm
    rw [List.getElem?_take] at hi
    split at hi
    · rename_i hik
      have hkl : k < nl.length := by
        rcases Nat.lt_or_ge k nl.length with c | c
        · exact c
        · rw [List.getElem?_eq_none c] at hk; cases hk
      have := (List.getElem?_inj (i := i) (j := k) (by omega) hnl).1 (hi.trans hk.symm)
      omega
    · cases hi
  refine ⟨?_, L1.fr hF (far _ (by simp)) (by rw [hl0]; simp), ?_, fun x hx => ?_, ?_, ?_, ?_⟩
  · have hb : ∀ {g}, g ∈ [P.X.nb, P.X.jb, P.X.qb, P.X.ib, P.X.cb, P.X.vb, P.ab, P.zb, P.lgb] → g < (wr.alloc o).heap.size → w'.heap[g]? = (wr.alloc o).heap[g]? := fun {g} hg hl => hF.block g hl (far g hg)
    exact { A1 with
      node := ⟨A1.node.row.of_block (hb (by simp) A1.node.row.lt), A1.node.r0, A1.node.r1, A1.node.r2⟩
      jrow := A1.jrow.of_block (hb (by simp) A1.jrow.lt)
      asked := A1.asked.of_block (hb (by simp) A1.asked.lt)
      awaited := A1.awaited.of_block (hb (by simp) A1.awaited.lt)
      wanted := A1.wanted.of_block (hb (by simp) A1.wanted.lt)
      own := own_fr A1.own hF (fun g hg hm => by have := st.lv g hg; have := h.fz g hm; omega)
      net := A1.net.fr hF (far _ (by simp)) (far _ (by simp)) (far _ (by simp))
      log := ⟨P.lv0, L1.fr hF (far _ (by simp)) (by rw [hl0]; simp), by rw [hl0]; simp⟩
      fr := A1.fr.wide hF (fun x hx => .inr (h.fz x hx)) }
  · have e2 : intsL (qs ++ [j]) = intsL qs ++ [.int .i64 ((j : Nat) : Int)] := by simp [intsL]
    rw [e2, List.length_append]
    exact hown
  · have : x = g := by simpa [ob, Value.ownBlock] using hx
    subst this
    rcases hg with h1 | h1
    · exact h.fz x h1
    · have : (wr.alloc o).heap.size = wr.heap.size + 1 := by simp
      omega
  · refine List.nodup_append.2 ⟨h.nd, by simp, ?_⟩
    intro a ha b hb e
    simp at hb
    subst hb e
    exact hkm (h.sub a ha).1
  · intro x hx
    rcases List.mem_append.1 hx with h1 | h1
    · exact ⟨(List.take_subset_take_left nl (Nat.le_succ k)) (h.sub x h1).1, (h.sub x h1).2⟩
    · simp at h1
      subst h1
      refine ⟨?_, hj⟩
      rw [List.take_add_one, hk]
      simp
  · have := h.len; simp; omega


end Go.Proofs.YbulkbtkoGreatFmt

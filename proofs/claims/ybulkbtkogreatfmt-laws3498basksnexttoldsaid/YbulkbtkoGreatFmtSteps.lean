import Derived.Test.YbulkbtkoGreatFmtState
namespace Go.Proofs.YbulkbtkoGreatFmt
open Go.RowKit
set_option linter.unusedVariables false
set_option linter.unusedSimpArgs false

variable {X : Cx} {w wr w' : World} {seen : Nat → Bool} {nl fs : List Nat} {held : Bool} {want : Nat → Bool} {K : Nat} {fv v : Value} {ed : Int} {r : Nat → Value}

theorem EH.back1 (h : EH X w wr seen nl fs held want K fv v ed r) (hB : EB X w) (hf : Fr wr w' [X.nb]) {r' : Nat → Value} {ed' : Int} (hn : NodeIs w' X.nb X.ib X.vb X.N X.s X.T X.C ed' r') (hr : ∀ k, k ≠ 516 → r' k = X.r k) (h0 : 0 ≤ ed') (h1 : ed' ≤ 301)
    (hbk : ∃ bg bc, r' 516 = .slice (some ⟨bg, 0, none⟩) 1 bc ∧ w'.cell? ⟨bg, 0, none⟩ = some (.int .i64 ((X.snd : Nat) : Int)) ∧ w.heap.size ≤ bg ∧ bg ∉ ob v ∧ bg ∉ ob fv) : EH X w w' seen nl fs true want K fv v ed' r' := by
  have nd := hB.nd
  simp only [List.nodup_cons, List.mem_cons, not_or, List.not_mem_nil, not_false_eq_true, and_true] at nd
  have hnv : X.nb ∉ ob v := fun hm => h.vapart hB _ hm (by simp)
  have hnf : X.nb ∉ ob fv := fun hm => by have := (h.atf _ hm).1; have := hB.lt X.nb (by simp); omega
  exact {
    node := hn
    rr := hr
    ed0 := h0
    ed1 := by simp; omega
    back := .inr ⟨rfl, hbk⟩
    jrow := h.jrow.of_block (hf.block _ h.jrow.lt (by simp; exact Ne.symm nd.1.1))
    heard := h.heard.of_block (hf.block _ h.heard.lt (by simp; exact Ne.symm nd.1.2.1))
    wanted := h.wanted.of_block (hf.block _ h.wanted.lt (by simp; exact Ne.symm nd.1.2.2.1))
    own := own_fr h.own hf (fun g hg hm => by simp at hm; exact hnv (hm ▸ hg))
    fown := own_fr h.fown hf (fun g hg hm => by simp at hm; exact hnf (hm ▸ hg))
    fr := h.fr.wide hf (fun x hx => by simp at hx; subst hx; exact .inl (by simp))
    atv := h.atv
    atf := h.atf
    lt := h.lt
    len := h.len
    nlen := h.nlen }

/-- 'n.heldBy(sender)'. -/
theorem EHx.callHeld (h : EHx X w wr seen nl fs held want K fv) (hB : EB X w) :
    Calls Ybaz.prog 13 #[.pointer (some ⟨X.nb, 0, none⟩), .int .i64 ((X.snd : Nat) : Int)] wr fun e w' => e = .returned (.tuple #[]) ∧ EHx X w w' seen nl fs true want K fv := by
  obtain ⟨v, ed, r, h⟩ := h
  have hnlt := hB.lt X.nb (by simp)
  have hsz := h.fr.size
  rcases h.back with ⟨h1, h2⟩ | ⟨h1, bg, bc, h2, h3, h4, h5, h6⟩
  · subst h1
    refine (heldNil_any h.node h2 ⟨h.ed0, by have := h.ed1; simp at this; omega⟩ _).mono ?_
    rintro e w' ⟨rfl, g, cap, hf, hn, hg, hc⟩
    refine ⟨rfl, v, ed + 1, _, h.back1 hB hf hn (fun k hk => ?_) (by have := h.ed0; omega) (by have := h.ed1; simp at this; omega) ⟨g, cap, by simp [putF], hc, by omega, ?_, ?_⟩⟩
    · rw [← h.rr k hk]; simp [putF, hk]
    · intro hm; have := own_lt h.own g hm; omega
    · intro hm; have := own_lt h.fown g hm; omega
  · subst h1
    refine (heldOne_any h.node h2 _ h3).mono ?_
    rintro e w' ⟨rfl, hf, hn⟩
    refine ⟨rfl, v, ed, r, h.back1 hB hf hn h.rr h.ed0 (by have := h.ed1; simp at this; omega) ⟨bg, bc, h2, hf.cell h3 ?_, h4, h5, h6⟩⟩
    show bg ∉ [X.nb]
    simp
    omega

/-- 'js.hearOf(n, j)' at a node heard of before. -/
theorem EHx.callOld (h : EHx X w wr seen nl fs held want K fv) (hB : EB X w) {j : Nat} (hj : j < X.N) (hseen : seen j = true) :
    Calls Ybaz.prog 14 #[.pointer (some ⟨X.jb, 0, none⟩), .pointer (some ⟨X.nb, 0, none⟩), .int .i64 ((j : Nat) : Int)] wr fun e w' => e = .returned (.bool false) ∧ w' = wr := by
  obtain ⟨v, ed, r, h⟩ := h
  exact hearOf_old (by have := hB.hN; omega) h.jrow (by simp [putF, hB.j1]) h.heard (by rw [up_nat]; exact hseen)

/-- 'js.hearOf(n, j)' at a new one. -/
theorem EH.callNew (h : EH X w wr seen nl fs held want K fv v ed r) (hB : EB X w) {j : Nat} (hj : j < X.N) (hseen : seen j = false) (hK : K ≤ 1000) (hnl : nl.length ≤ K) :
    Calls Ybaz.prog 14 #[.pointer (some ⟨X.jb, 0, none⟩), .pointer (some ⟨X.nb, 0, none⟩), .int .i64 ((j : Nat) : Int)] wr fun e w' => e = .returned (.bool true) ∧ EHx X w w' (setB seen j) (nl ++ [j]) fs held want (K + 1) fv ∧ Fr wr w' (X.jb :: X.hb :: ob v) := by
  have nd := hB.nd
  simp only [List.nodup_cons, List.mem_cons, not_or, List.not_mem_nil, not_false_eq_true, and_true] at nd
  have hl0 := hB.hl0
  have hva := h.vapart hB
  refine (hearOf_new (X.s |> fun _ => hB.netE h) hB.hid hB.hN hB.hs h.node hj h.jrow (v := v) (by simp [putF]) (by simp [putF, hB.j1]) h.heard (by rw [up_nat]; exact hseen) (by omega) h.own (by rw [List.length_append]; omega) ?_ ?_).mono ?_
  · simp only [List.nodup_cons, List.mem_cons, not_or, List.not_mem_nil, not_false_eq_true, and_true]
    exact ⟨⟨nd.1.1, nd.1.2.1, nd.1.2.2.2.1, nd.1.2.2.2.2.1, nd.1.2.2.2.2.2⟩, ⟨nd.2.1.1, nd.2.1.2.2.1, nd.2.1.2.2.2.1, nd.2.1.2.2.2.2⟩, ⟨nd.2.2.1.2.1, nd.2.2.1.2.2.1, nd.2.2.1.2.2.2⟩, nd.2.2.2.2.1, nd.2.2.2.2.2⟩
  · intro g hg hm
    refine hva g hg ?_
    simp only [List.mem_cons] at hm ⊢
    rcases hm with h | h | h | h | h | h | h
    · exact .inl h
    · exact .inr (.inl h)
    · exact .inr (.inr (.inl h))
    · exact .inr (.inr (.inr (.inr (.inl h))))
    · exact .inr (.inr (.inr (.inr (.inr (.inl h)))))
    · exact .inr (.inr (.inr (.inr (.inr (.inr (.inl h))))))
    · cases h
  rintro e w' ⟨rfl, v', hH⟩
  have hf := hH.fr
  have hsz := h.fr.size
  have hnn : X.nb ∉ X.jb :: X.hb :: ob v := by
    simp only [List.mem_cons, not_or]
    exact ⟨nd.1.1, nd.1.2.1, fun hm => hva _ hm (by simp)⟩
  have hqq : X.qb ∉ X.jb :: X.hb :: ob v := by
    simp only [List.mem_cons, not_or]
    exact ⟨Ne.symm nd.2.1.2.1, Ne.symm nd.2.2.1.1, fun hm => hva _ hm (by simp)⟩
  have hff : ∀ g ∈ ob fv, g ∉ X.jb :: X.hb :: ob v := fun g hg => by
    have h1 := h.atf g hg
    have h2 := hB.lt X.jb (by simp)
    have h3 := hB.lt X.hb (by simp)
    simp only [List.mem_cons, not_or]
    exact ⟨by omega, by omega, h1.2⟩
  refine ⟨rfl, ⟨v', ed, r, {
    node := ⟨h.node.row.of_block (hf.block _ h.node.row.lt hnn), h.node.r0, h.node.r1, h.node.r2⟩
    rr := h.rr
    ed0 := h.ed0
    ed1 := h.ed1
    back := ?_
    jrow := hH.row.congr fun k hk => (by unfold putF; by_cases e : k = 0 <;> simp [e])
    heard := ?_
    wanted := (h.wanted.of_block (hf.block _ h.wanted.lt hqq)).mono (by omega)
    own := ?_
    fown := own_fr h.fown hf hff
    fr := h.fr.wide hf ?_
    atv := ?_
    atf := ?_
    lt := h.lt
    len := by have := h.len; omega
    nlen := by rw [List.length_append]; simp; omega }⟩, hf⟩
  · rcases h.back with h1 | ⟨h1, bg, bc, h2, h3, h4, h5, h6⟩
    · exact .inl h1
    · have hlt : bg < wr.heap.size := World.block_lt_of_cell? _ _ h3
      have q1 := hB.lt X.jb (by simp)
      have q2 := hB.lt X.hb (by simp)
      refine .inr ⟨h1, bg, bc, h2, hf.cell h3 ?_, h4, ?_, h6⟩
      · simp only [List.mem_cons, not_or]
        exact ⟨by show bg ≠ X.jb; omega, by show bg ≠ X.hb; omega, h5⟩
      · intro hm
        rcases hH.at' bg hm with h7 | h7
        · exact h5 h7
        · omega
  · have h1 := hH.set.congr (fun k => up_set seen j k)
    rw [cntB_set hseen _ hj]
    exact h1
  · have h1 := hH.own
    rw [← List.append_assoc, List.length_append]
    exact h1
  · intro x hx
    simp only [List.mem_cons] at hx ⊢
    rcases hx with h1 | h1 | h1
    · exact .inl (.inr (.inl h1))
    · exact .inl (.inr (.inr (.inl h1)))
    · rcases h.atv x h1 with h2 | h2
      · exact .inl (.inr (.inr (.inr (.inr h2))))
      · exact .inr h2
  · intro g hg
    rcases hH.at' g hg with h1 | h1
    · exact h.atv g h1
    · exact .inr (by omega)
  · intro g hg
    refine ⟨(h.atf g hg).1, fun hm => ?_⟩
    rcases hH.at' g hm with h1 | h1
    · exact (h.atf g hg).2 h1
    · have := own_lt h.fown g hg; omega

theorem EHx.callNew (h : EHx X w wr seen nl fs held want K fv) (hB : EB X w) {j : Nat} (hj : j < X.N) (hseen : seen j = false) (hK : K ≤ 1000) (hnl : nl.length ≤ K) {wq : World} (hq : Fr wr wq []) :
    Calls Ybaz.prog 14 #[.pointer (some ⟨X.jb, 0, none⟩), .pointer (some ⟨X.nb, 0, none⟩), .int .i64 ((j : Nat) : Int)] wq fun e w' => e = .returned (.bool true) ∧ EHx X w w' (setB seen j) (nl ++ [j]) fs held want (K + 1) fv ∧ ∀ b, wr.heap.size ≤ b → b < wq.heap.size → w'.heap[b]? = wq.heap[b]? := by
  obtain ⟨v, ed, r, h⟩ := h
  refine ((h.keep hq).callNew hB hj hseen hK hnl).mono ?_
  rintro e w' ⟨rfl, h1, h2⟩
  refine ⟨rfl, h1, fun b hb hlt => h2.block b hlt ?_⟩
  have q1 := hB.lt X.jb (by simp)
  have q2 := hB.lt X.hb (by simp)
  have q3 := h.fr.size
  simp only [List.mem_cons, not_or]
  exact ⟨by omega, by omega, fun hm => by have := own_lt h.own b hm; omega⟩

end Go.Proofs.YbulkbtkoGreatFmt

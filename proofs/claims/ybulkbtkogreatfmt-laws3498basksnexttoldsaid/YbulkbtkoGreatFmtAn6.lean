import Derived.Test.YbulkbtkoGreatFmtAk
namespace Go.Proofs.YbulkbtkoGreatFmt
open Go.RowKit
set_option linter.unusedVariables false
set_option linter.unusedSimpArgs false

def sndSeqA : Code → Code | .seq _ b => b | c => c
/-- What is left of the body behind its k-th statement: taken out of the loaded function, not typed. -/
noncomputable def atail4 : Code := sndSeqA (sndSeqA (sndSeqA (sndSeqA (Ybaz.f26.body.getD .skip))))
noncomputable def atail5 : Code := sndSeqA (sndSeqA (sndSeqA (sndSeqA (sndSeqA (Ybaz.f26.body.getD .skip)))))
noncomputable def atail6 : Code := sndSeqA (sndSeqA (sndSeqA (sndSeqA (sndSeqA (sndSeqA (Ybaz.f26.body.getD .skip))))))

/-- What the search's cells hold that askNext reads. -/
structure FJ (P : APar) (F : Nat → Value) (tp lv : Int) : Prop where
  f0 : F 0 = P.v
  f2 : F 2 = .map (some P.ab)
  f260 : F 260 = .map (some P.X.qb)
  f261 : F 261 = .int .i64 tp
  f262 : F 262 = .int .i64 lv
  f263 : F 263 = .map (some P.zb)
  fst : ∀ p, p < 256 → ∃ x, F (4 + p) = .int .i64 x
theorem FJ.put {P : APar} {F : Nat → Value} {tp lv : Int} (h : FJ P F tp lv) {i : Nat} (hi : 264 ≤ i) (u : Value) : FJ P (putF F i u) tp lv :=
  ⟨by simp only [putF]; rw [if_neg (by omega)]; exact h.f0, by simp only [putF]; rw [if_neg (by omega)]; exact h.f2, by simp only [putF]; rw [if_neg (by omega)]; exact h.f260, by simp only [putF]; rw [if_neg (by omega)]; exact h.f261, by simp only [putF]; rw [if_neg (by omega)]; exact h.f262, by simp only [putF]; rw [if_neg (by omega)]; exact h.f263, fun p hp => by simp only [putF]; rw [if_neg (by omega)]; exact h.fst p hp⟩
theorem FJ.top {P : APar} {F : Nat → Value} {tp lv : Int} (h : FJ P F tp lv) (t : Int) : FJ P (putF F 261 (.int .i64 t)) t lv :=
  ⟨by simp only [putF]; rw [if_neg (by omega)]; exact h.f0, by simp only [putF]; rw [if_neg (by omega)]; exact h.f2, by simp only [putF]; rw [if_neg (by omega)]; exact h.f260, by simp [putF], by simp only [putF]; rw [if_neg (by omega)]; exact h.f262, by simp only [putF]; rw [if_neg (by omega)]; exact h.f263, fun p hp => by simp only [putF]; rw [if_neg (by omega)]; exact h.fst p hp⟩
theorem FJ.level {P : APar} {F : Nat → Value} {tp lv : Int} (h : FJ P F tp lv) (t : Int) : FJ P (putF F 262 (.int .i64 t)) tp t :=
  ⟨by simp only [putF]; rw [if_neg (by omega)]; exact h.f0, by simp only [putF]; rw [if_neg (by omega)]; exact h.f2, by simp only [putF]; rw [if_neg (by omega)]; exact h.f260, by simp only [putF]; rw [if_neg (by omega)]; exact h.f261, by simp [putF], by simp only [putF]; rw [if_neg (by omega)]; exact h.f263, fun p hp => by simp only [putF]; rw [if_neg (by omega)]; exact h.fst p hp⟩

/-- What askNext leaves. -/
def AR (w w' : World) (P : APar) (askS0 : Int → Bool) : Prop := ∃ F rr nl askS awS na nw m L, AK w w' P F rr nl askS awS na nw m L ∧ F 2 = .map (some P.ab) ∧ F 263 = .map (some P.zb) ∧ (∀ j, askS0 j = true → askS j = true) ∧ rr 519 = .int .i64 1 ∧
  ((rr 518 = .pointer none ∧ ∀ e ∈ L, (e.k = 10 ∨ e.k = 11) ∧ e.h = ((P.X.s : Nat) : Int)) ∨
   (rr 518 = .pointer (some ⟨P.X.jb, 0, none⟩) ∧ L ≠ [] ∧ nw = L.length ∧ ∀ e ∈ L, e.k = 7 ∧ e.a = ((P.X.s : Nat) : Int) ∧ ∃ j : Nat, e.dest = (j : Int) ∧ j < P.X.N ∧ awS (j : Int) = true ∧ askS (j : Int) = true))

theorem AK.grow {w wr w' : World} {P : APar} {F rr : Nat → Value} {nl : List Nat} {askS awS : Int → Bool} {na nw m : Nat} {L L' : List LogE} {lv lv' : Value} (h : AK w wr P F rr nl askS awS na nw m L) (g2 : ∀ g ∈ ob lv, g ∈ ob P.lv0 ∨ w.heap.size ≤ g) (k1 : LogAt w' P.lgb L' lv') (k2 : Fr wr w' (P.lgb :: ob lv)) (k3 : ∀ g ∈ ob lv', g ∈ ob lv ∨ wr.heap.size ≤ g) :
    AK w w' P F rr nl askS awS na nw m L' := by
  have nd := h.st.nd
  simp only [List.mem_cons, not_or, List.not_mem_nil, not_false_eq_true, and_true, List.nodup_cons] at nd
  have hlf := h.logfar g2
  have hsz := h.fr.size
  have far : ∀ g ∈ [P.X.nb, P.X.jb, P.X.qb, P.X.ib, P.X.cb, P.X.vb, P.ab, P.zb], g ∉ P.lgb :: ob lv := fun g hg hm => by
    rcases List.mem_cons.1 hm with h1 | h1
    · simp only [List.mem_cons, List.not_mem_nil, or_false] at hg
      grind
    · exact (hlf g h1).1 (by simp only [List.mem_cons, List.not_mem_nil, or_false] at hg ⊢; grind)
  have hb : ∀ {g}, g ∈ [P.X.nb, P.X.jb, P.X.qb, P.X.ib, P.X.cb, P.X.vb, P.ab, P.zb] → g < wr.heap.size → w'.heap[g]? = wr.heap[g]? := fun {g} hg hl => k2.block g hl (far g hg)
  exact { h with
    node := ⟨h.node.row.of_block (hb (by simp) h.node.row.lt), h.node.r0, h.node.r1, h.node.r2⟩
    jrow := h.jrow.of_block (hb (by simp) h.jrow.lt)
    asked := h.asked.of_block (hb (by simp) h.asked.lt)
    awaited := h.awaited.of_block (hb (by simp) h.awaited.lt)
    wanted := h.wanted.of_block (hb (by simp) h.wanted.lt)
    own := own_fr h.own k2 (fun g hg hm => by
      rcases List.mem_cons.1 hm with h1 | h1
      · exact h.st.hv g hg (by simp [h1])
      · exact (hlf g h1).2 hg)
    net := h.net.fr k2 (far _ (by simp)) (far _ (by simp)) (far _ (by simp))
    log := ⟨lv', k1, fun g hg => by
      rcases k3 g hg with h1 | h1
      · exact g2 g h1
      · exact .inr (by omega)⟩
    fr := h.fr.wide k2 (fun x hx => by
      rcases List.mem_cons.1 hx with h1 | h1
      · exact .inl (by simp [h1])
      · rcases g2 x h1 with h3 | h3
        · exact .inl (by simp [h3])
        · exact .inr h3) }

set_option maxHeartbeats 4000000 in
set_option maxRecDepth 100000 in
theorem an_t6 {w wr : World} {P : APar} {F rr : Nat → Value} {nl : List Nat} {askS0 askS awS : Int → Bool} {na nw m pb : Nat} {tp lv : Int} (h0 : AK w wr P F rr nl askS awS na nw m []) (hF : FJ P F tp lv) (hpb : w.cell? ⟨pb, 0, none⟩ = some (.pointer (some ⟨P.X.nb, 0, none⟩))) (hpf : pb ∉ P.X.nb :: P.X.jb :: P.ab :: P.zb :: P.lgb :: (ob P.v ++ ob P.lv0))
    (hask : ∀ j, askS0 j = true → askS j = true) (h519 : rr 519 = .int .i64 1) {q0 q3 q5 q6 q7 q8 q9 q10 q11 q12 q13 q14 q15 q16 q17 q18 q19 q20 q21 q22 q23 q24 q25 q26 q27 q28 q29 q30 q31 q32 q33 q34 q35 q36 q37 q38 q39 q40 q41 q42 q43 q44 q45 q46 q47 q48 q49 q50 q51 q52 q53 q54 q55 q56 q57 q58 q59 q60 q61 q62 q63 q64 q65 q66 q67 q68 q69 q70 q71 q72 q73 q74 q75 q76 q77 q78 q79 q80 q81 q82 q83 q84 q85 q86 q87 q88 q89 q90 q91 q92 q93 q94 q95 q96 q97 q98 q99 q100 q101 q102 q103 q104 q105 q106 q107 q108 q109 q110 q111 q112 q113 q114 q115 q116 q117 q118 q119 q120 q121 q122 q123 q124 q125 q126 q127 q128 q129 q130 q131 q132 q133 q134 q135 q136 q137 q138 q139 q140 q141 q142 q143 q144 q145 q146 q147 q148 q149 q150 q151 q152 q153 q154 q155 q156 q157 q158 q159 q160 q161 q162 q163 q164 q165 q166 q167 q168 q169 q170 q171 q172 q173 q174 q175 q176 q177 q178 q179 q180 : Value} :
    Code.wp Ybaz.prog atail6 (bodyPost Ybaz.prog Ybaz.f26 fun e w' => e = .returned (.tuple #[]) ∧ AR w w' P askS0) ⟨#[q0, .func (.func 10) #[] #[.pointer (some ⟨P.lgb, 0, none⟩)], .pointer (some ⟨pb, 0, none⟩), q3, .pointer (some ⟨P.X.jb, 0, none⟩), q5, q6, q7, q8, q9, q10, q11, q12, q13, q14, q15, q16, q17, q18, q19, q20, q21, q22, q23, q24, q25, q26, q27, q28, q29, q30, q31, q32, q33, q34, q35, q36, q37, q38, q39, q40, q41, q42, q43, q44, q45, q46, q47, q48, q49, q50, q51, q52, q53, q54, q55, q56, q57, q58, q59, q60, q61, q62, q63, q64, q65, q66, q67, q68, q69, q70, q71, q72, q73, q74, q75, q76, q77, q78, q79, q80, q81, q82, q83, q84, q85, q86, q87, q88, q89, q90, q91, q92, q93, q94, q95, q96, q97, q98, q99, q100, q101, q102, q103, q104, q105, q106, q107, q108, q109, q110, q111, q112, q113, q114, q115, q116, q117, q118, q119, q120, q121, q122, q123, q124, q125, q126, q127, q128, q129, q130, q131, q132, q133, q134, q135, q136, q137, q138, q139, q140, q141, q142, q143, q144, q145, q146, q147, q148, q149, q150, q151, q152, q153, q154, q155, q156, q157, q158, q159, q160, q161, q162, q163, q164, q165, q166, q167, q168, q169, q170, q171, q172, q173, q174, q175, q176, q177, q178, q179, q180], []⟩ wr := by
  have cp := h0.fr.cell hpb hpf
  obtain ⟨u518, c518⟩ : ∃ u, wr.cell? ⟨P.X.nb, 518, none⟩ = some u := ⟨_, h0.node.row.cell (by omega)⟩
  have z518 := h0.node.row.frozen 518
  have h1 := h0.setN (i := 518) (by omega) (by omega) (.pointer none)
  have cp1 := h1.fr.cell hpb hpf
  obtain ⟨w1, hw1⟩ : ∃ w1, w1 = wr.setCell ⟨P.X.nb, 518, none⟩ (.pointer none) := ⟨_, rfl⟩
  rw [← hw1] at h1 cp1
  have H1 := hide h1
  have HF := hide hF
  have Hask := hide hask
  have H519 := hide h519
  have hnd := h0.st.nd
  have Hpb := hide hpb
  clear h0 h1 hF hask h519 hpb
  conv => arg 2; simp only [atail6, Ybaz.f26, Option.getD_some, sndSeqA]
  dsimp only
  go_upto_region 33 with fail
  rw [← hw1]
  clear hw1 cp c518 z518
  obtain ⟨lg, k1, k2⟩ := (unhide H1).log
  have hH2 := hide ((unhide H1).keep (.of_same ((Same.refl w1).drew)))
  obtain ⟨lg2, k3, k4⟩ := (unhide hH2).log
  have hlf := (unhide hH2).logfar k4
  have htell := tell_any (w := w1.drew) (unhide hH2).node (unhide hH2).jrow (unhide HF).fst (lv0 := lg2) ⟨lg2, k3, Fr.refl _ _, fun g hg => .inl hg⟩
    (fun hm => by
      rcases List.mem_cons.1 hm with e | e
      · simp only [List.nodup_cons, List.mem_cons, not_or] at hnd; exact hnd.1.2.2.2.2.2.2.2.1 e
      · exact (hlf _ e).1 (by simp))
    (fun hm => by
      rcases List.mem_cons.1 hm with e | e
      · simp only [List.nodup_cons, List.mem_cons, not_or] at hnd; exact hnd.2.1.2.2.2.2.2.2.1 e
      · exact (hlf _ e).1 (by simp))
  have Htell := hide htell
  have Hk4 := hide k4
  clear htell k1 k2 k3 k4 hlf hnd
  go_region_held3 (fun w' => w'.cell? ⟨pb, 0, none⟩ = some (.pointer (some ⟨P.X.nb, 0, none⟩)))
    ((first | exact cp1 | exact cp2))
    ((go_at_call 24; refine (unhide Htell).mono ?_; rintro e w2 ⟨rfl, L, ⟨lv2, j1, j2, j3⟩, hall'⟩; have hA2 := hide ((unhide hH2).grow (unhide Hk4) j1 j2 j3); have cp2 : w2.cell? ⟨pb, 0, none⟩ = some (.pointer (some ⟨P.X.nb, 0, none⟩)) := (unhide hA2).fr.cell (unhide Hpb) hpf; have hall := hide hall'; clear hall' j1 j2 j3))
  go_end0
  exact ⟨rfl, F, putF rr 518 (.pointer none), nl, askS, awS, na, nw, m, L, unhide hA2, (unhide HF).f2, (unhide HF).f263, unhide Hask, by simp [putF, unhide H519], .inl ⟨by simp [putF], unhide hall⟩⟩

end Go.Proofs.YbulkbtkoGreatFmt

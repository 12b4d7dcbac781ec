import Derived.Test.YbulkbtkoGreatFmtA4
namespace Go.Proofs.YbulkbtkoGreatFmt
open Go.RowKit
set_option linter.unusedVariables false
set_option linter.unusedSimpArgs false

theorem ASt.ne {w : World} {P : APar} (h : ASt w P) : P.X.jb ≠ P.ab ∧ P.X.jb ≠ P.zb ∧ P.X.jb ≠ P.lgb ∧ P.X.nb ≠ P.ab ∧ P.X.nb ≠ P.zb ∧ P.X.nb ≠ P.lgb := by
  have nd := h.nd
  simp only [List.mem_cons, not_or, List.not_mem_nil, not_false_eq_true, and_true, List.nodup_cons] at nd
  grind

set_option maxHeartbeats 4000000 in
set_option maxRecDepth 100000 in
theorem an_t5 {w wr : World} {P : APar} {F rr : Nat → Value} {nl : List Nat} {askS0 askS : Int → Bool} {na m pb : Nat} {tp lv : Int} (h0 : AQ w wr P F rr nl askS (fun _ => false) na 0 m (.slice none 0 0) [] 0) (hF : FJ P F tp lv) (hlv : P.lv0 = .slice none 0 0) (hlo : -1 ≤ lv ∧ lv ≤ 16) (htp : -1 ≤ tp ∧ tp ≤ 16) (hnl : nl.Nodup) (hpb : w.cell? ⟨pb, 0, none⟩ = some (.pointer (some ⟨P.X.nb, 0, none⟩))) (hpf : pb ∉ P.X.nb :: P.X.jb :: P.ab :: P.zb :: P.lgb :: (ob P.v ++ ob P.lv0))
    (hask : ∀ j, askS0 j = true → askS j = true) (h519 : rr 519 = .int .i64 1) (h518 : rr 518 = .pointer (some ⟨P.X.jb, 0, none⟩)) (hm : m ≤ 2100) {q0 q3 q5 q6 q7 q8 q9 q10 q11 q12 q13 q14 q15 q16 q17 q18 q19 q20 q21 q22 q23 q24 q25 q26 q27 q28 q29 q30 q31 q32 q33 q34 q35 q36 q37 q38 q39 q40 q41 q42 q43 q44 q45 q46 q47 q48 q49 q50 q51 q52 q53 q54 q55 q56 q57 q58 q59 q60 q61 q62 q63 q64 q65 q66 q67 q68 q69 q70 q71 q72 q73 q74 q75 q76 q77 q78 q79 q80 q81 q82 q83 q84 q85 q86 q87 q88 q89 q90 q91 q92 q93 q94 q95 q96 q97 q98 q99 q100 q101 q102 q103 q104 q105 q106 q107 q108 q109 q110 q111 q112 q113 q114 q115 q116 q117 q118 q119 q120 q121 q122 q123 q124 q125 q126 q127 q128 q129 q130 q131 q132 q133 q134 q135 q136 q137 q138 q139 q140 q141 q142 q143 q144 q145 q146 q147 q148 q149 q150 q151 q152 q153 q154 q155 q156 q157 q158 q159 q160 q161 q162 q163 q164 q165 q166 q167 q168 q169 q170 q171 q172 q173 q174 q175 q176 q177 q178 q179 q180 : Value} :
    Code.wp Ybaz.prog atail5 (bodyPost Ybaz.prog Ybaz.f26 fun e w' => e = .returned (.tuple #[]) ∧ AR w w' P askS0) ⟨#[q0, .func (.func 10) #[] #[.pointer (some ⟨P.lgb, 0, none⟩)], .pointer (some ⟨pb, 0, none⟩), q3, .pointer (some ⟨P.X.jb, 0, none⟩), q5, q6, q7, q8, q9, q10, q11, q12, q13, q14, q15, q16, q17, q18, q19, q20, q21, q22, q23, q24, q25, q26, q27, q28, q29, q30, q31, q32, q33, q34, q35, q36, q37, q38, q39, q40, q41, q42, q43, q44, q45, q46, q47, q48, q49, q50, q51, q52, q53, q54, q55, q56, q57, q58, q59, q60, q61, q62, q63, q64, q65, q66, q67, q68, q69, q70, q71, q72, q73, q74, q75, q76, q77, q78, q79, q80, q81, q82, q83, q84, q85, q86, q87, q88, q89, q90, q91, q92, q93, q94, q95, q96, q97, q98, q99, q100, q101, q102, q103, q104, q105, q106, q107, q108, q109, q110, q111, q112, q113, q114, q115, q116, q117, q118, q119, q120, q121, q122, q123, q124, q125, q126, q127, q128, q129, q130, q131, q132, q133, q134, q135, q136, q137, q138, q139, q140, q141, q142, q143, q144, q145, q146, q147, q148, q149, q150, q151, q152, q153, q154, q155, q156, q157, q158, q159, q160, q161, q162, q163, q164, q165, q166, q167, q168, q169, q170, q171, q172, q173, q174, q175, q176, q177, q178, q179, q180], []⟩ wr := by
  have H0 := hide h0
  have HF0 := hide hF
  have Hlv := hide hlv
  have Hnl := hide hnl
  have Hpb := hide hpb
  have Hask := hide hask
  have H519 := hide h519
  have H518 := hide h518
  have hlen := h0.ak.len
  obtain ⟨va, vcap, hve, hvs⟩ := own_shape h0.ak.own
  have hveq : Hid (P.v = .slice va nl.length vcap) := hve
  clear h0 hF hlv hnl hpb hask h519 h518 hve hvs
  conv => arg 2; simp only [atail5, Ybaz.f26, Option.getD_some, sndSeqA]
  dsimp only
  go_upto_block 2 with fail
  go_cut [] (fun wq => ∃ F lv, Hid (FJ P F tp lv) ∧ Hid (AK w wq P F rr nl askS (fun _ => false) na 0 m []))
  case first =>
    go_wp2_with fail
    go_loopw [7] (fun _ wq => ∃ F lv, -1 ≤ lv ∧ lv ≤ 16 ∧ Hid (FJ P F tp lv) ∧ Hid (AQ w wq P F rr nl askS (fun _ => false) na 0 m (.slice none 0 0) [] 0)) (fun _ wq => (intOf ((wq.cell? ⟨P.X.jb, 262, none⟩).getD undef) + 1).toNat)
    case atStart => exact ⟨F, lv, hlo.1, hlo.2, HF0, H0⟩
    case round =>
      obtain ⟨F, lv, hl1, hl2, HF, hA⟩ := hrel
      rename World => wq
      have c262 : wq.cell? ⟨P.X.jb, 262, none⟩ = some (.int .i64 lv) := ((unhide hA).ak.jrow.cell (by omega)).trans (by rw [(unhide HF).f262])
      by_cases hge : 0 ≤ lv
      · have u1 : decide (0 ≤ lv) = true := by simp [hge]
        have c0 : wq.cell? ⟨P.X.jb, 0, none⟩ = some (.slice va nl.length vcap) := ((unhide hA).ak.jrow.cell (by omega)).trans (by rw [(unhide HF).f0, unhide hveq])
        go_upto_block 4 with fail
        go_cut [7] (fun s7 wq3 => ∃ qs, Hid (AQ w wq3 P F rr nl askS (fun _ => false) na 0 m s7 qs nl.length))
        case first =>
          go_wp2_with fail
          go_loopw [82, 7, 8] (fun iv av nv wq3 => ∃ k : Nat, k ≤ nl.length ∧ iv = .int .i64 (k : Int) ∧ ∃ (near : Nat) (qs : List Nat), near ≤ k ∧ nv = .int .i64 (near : Int) ∧ Hid (AQ w wq3 P F rr nl askS (fun _ => false) na 0 m av qs k)) (fun iv _ _ _ => nl.length - (intOf iv).toNat)
          case atStart => exact ⟨0, by omega, rfl, 0, [], by omega, rfl, hA⟩
          case round =>
            obtain ⟨k, hk, rfl, near, qs, hnr, rfl, hQ⟩ := hrel
            rename World => wx
            by_cases hkl : k < nl.length
            · obtain ⟨g, cap, hge, _, hgc⟩ := own_cells (unhide hQ).ak.own (by omega)
              obtain ⟨j, hj⟩ : ∃ j, nl[k]? = some j := ⟨_, List.getElem?_eq_getElem hkl⟩
              have m0 := hgc (k * 3) (.int .i64 ((j : Nat) : Int)) (hd_at nl k j hj 0 _ rfl)
              have m1 := hgc (k * 3 + 1) (.float .f64 (P.X.cw j)) (hd_at nl k j hj 1 _ rfl)
              have m2 := hgc (k * 3 + 2) (.int .i64 ((shD (P.X.id P.X.s) (P.X.id j) : Nat) : Int)) (hd_at nl k j hj 2 _ rfl)
              have hjN := (unhide hQ).ak.nlt j (List.mem_of_getElem? hj)
              have hshl := shD_le (P.X.id P.X.s) (P.X.id j)
              have hsl : Hid (va = some ⟨g, 0, none⟩) := by
                rw [unhide hveq] at hge
                simp only [Value.slice.injEq] at hge
                exact hge.1
              obtain rfl := unhide hsl
              have k0 : (0 : Int) ≤ (k : Int) := by omega
              have k1 : (k : Int) < (nl.length : Int) := by omega
              have hst := fun w' => run_store Ybaz.prog w' ⟨wx.heap.size, 1, none⟩ (.float .f64 (P.X.cw j)) .plain rfl
              have Hj := hide hj
              clear hgc hge hj hsl
              go_upto_region 18 with fail
              obtain ⟨wX, hwX⟩ : ∃ wX, wX = wx.alloc (.cells #[.int .i64 ((j : Nat) : Int), .float .f64 (P.X.cw j), .int .i64 ((shD (P.X.id P.X.s) (P.X.id j) : Nat) : Int)] 65) := ⟨_, rfl⟩
              have x0 : wX.cell? ⟨wx.heap.size, 0, none⟩ = some (.int .i64 ((j : Nat) : Int)) := by rw [hwX]; go_simp
              have x2 : wX.cell? ⟨wx.heap.size, 2, none⟩ = some (.int .i64 ((shD (P.X.id P.X.s) (P.X.id j) : Nat) : Int)) := by rw [hwX]; go_simp
              have hQX := hide ((unhide hQ).keep (w' := wX) (by rw [hwX]; exact (Fr.refl _ _).alloc _))
              rw [← hwX]
              clear hwX hst m0 m1 m2 hQ
              have y262 : wX.cell? ⟨P.X.jb, 262, none⟩ = some (.int .i64 lv) := ((unhide hQX).ak.jrow.cell (by omega)).trans (by rw [(unhide HF).f262])
              have y261 : wX.cell? ⟨P.X.jb, 261, none⟩ = some (.int .i64 tp) := ((unhide hQX).ak.jrow.cell (by omega)).trans (by rw [(unhide HF).f261])
              have y2 : wX.cell? ⟨P.X.jb, 2, none⟩ = some (.map (some P.ab)) := ((unhide hQX).ak.jrow.cell (by omega)).trans (by rw [(unhide HF).f2])
              have y260 : wX.cell? ⟨P.X.jb, 260, none⟩ = some (.map (some P.X.qb)) := ((unhide hQX).ak.jrow.cell (by omega)).trans (by rw [(unhide HF).f260])
              have hjw : (Lit.int .i64 ((j : Nat) : Int)).wf = true := iwf (by have := (unhide hQX).ak.st.hN; omega) (by have := (unhide hQX).ak.st.hN; omega)
              obtain ⟨sh, hsh⟩ : ∃ sh, shD (P.X.id P.X.s) (P.X.id j) = sh := ⟨_, rfl⟩
              rw [hsh] at x2 hshl
              clear hsh
              obtain ⟨bs, hbs⟩ : ∃ bs, decide (((sh : Nat) : Int) < lv) = bs := ⟨_, rfl⟩
              go_cut [92] (fun s92 wz => s92 = .bool bs ∧ Same wX wz)
              case first =>
                go_big_quiet (fail)
                go_wp2_with fail
                go_meet
                exact ⟨rfl, (Same.refl _).drewN _⟩
              case rest =>
                obtain ⟨rfl, hSm⟩ := hcut
                rename World => wz
                have hQz := hide ((unhide hQX).keep (.of_same hSm))
                cases bs
                · have lkA := fun n => ((unhide hQz).keep (.of_same ((Same.refl wz).drewN n))).ak.asked.look hjw
                  have lkQ := fun n => ((unhide hQz).keep (.of_same ((Same.refl wz).drewN n))).ak.wanted.look hjw
                  simp only [up_nat] at lkQ
                  have x0' := (hSm.cell _).trans x0
                  have y262' := (hSm.cell _).trans y262
                  have y261' := (hSm.cell _).trans y261
                  have y2' := (hSm.cell _).trans y2
                  have y260' := (hSm.cell _).trans y260
                  clear x0 x2 y262 y261 y2 y260 hSm hQX hbs
                  obtain ⟨ba, hba⟩ : ∃ ba, askS ((j : Nat) : Int) = ba := ⟨_, rfl⟩
                  obtain ⟨bw, hbw⟩ : ∃ bw, P.want j = bw := ⟨_, rfl⟩
                  simp only [hba] at lkA
                  simp only [hbw] at lkQ
                  go_upto_region 20 with fail
                  go_cut [127] (fun s127 wy => ∃ b, s127 = .bool b ∧ (b = true → ba = false) ∧ Same wz wy)
                  case first =>
                    cases ba
                    · by_cases e1 : lv = tp
                      · have u1 : (lv == tp) = true := by simp [e1]
                        subst e1
                        go_big_quiet (fail)
                        go_wp2_with fail
                        go_meet
                        exact ⟨true, rfl, by simp, (Same.refl _).drewN _⟩
                      · have u1 : (lv == tp) = false := by simp [e1]
                        by_cases e2 : ((near : Nat) : Int) + 1 ≤ 16
                        · have u2 : decide (((near : Nat) : Int) + 1 ≤ 16) = true := by simp; omega
                          go_big_quiet (fail)
                          go_wp2_with fail
                          go_meet
                          exact ⟨true, rfl, by simp, (Same.refl _).drewN _⟩
                        · have u2 : decide (((near : Nat) : Int) + 1 ≤ 16) = false := by simp; omega
                          go_big_quiet (fail)
                          go_wp2_with fail
                          go_meet
                          exact ⟨bw, rfl, by simp, (Same.refl _).drewN _⟩
                    · go_big_quiet (fail)
                      go_wp2_with fail
                      go_meet
                      exact ⟨false, rfl, by simp, (Same.refl _).drewN _⟩
                  case rest =>
                    obtain ⟨b, rfl, hb, hSy⟩ := hcut
                    rename World => wy
                    have hQy := hide ((unhide hQz).keep (.of_same hSy))
                    have x0y := (hSy.cell _).trans x0'
                    have Hb := hide hb
                    have Hba := hide hba
                    clear lkA lkQ x0' y262' y261' y2' y260' hb hSy hba hbw hQz
                    cases b
                    · go_wp2_with fail
                      exact ⟨⟨k + 1, by omega, rfl, near + 1, qs, by omega, rfl, (unhide hQy).skip⟩, by simp [intOf]; omega⟩
                    · have hlq := (unhide hQy).len
                      go_wp2_with (guard_target = wpList _ _ _ (⟨_, Op.call { callee := Callee.builtin Builtin.append, args := _, argTypes := _ }, _, _, _, _⟩ :: _) _ _; go_must (refine wpList_app1 rfl _ _ rfl _ _ _ rfl (own_fr (unhide hQy).own ((Fr.refl _ []).alloc _) (by simp)) _ rfl (.int .i64 ((j : Nat) : Int)) (by go_simp) rfl (by omega) ?_; intro g3 cap3 w3 hown3' hF3' hg3'; have hown3 := hide hown3'; have hF3 := hide hF3'; have hg3 := hide hg3'; clear hown3' hF3' hg3'; try simp only [Act.put, List.setIfInBounds_toArray, List.set_cons_zero, List.set_cons_succ]))
                      exact ⟨⟨k + 1, by omega, rfl, near + 1, qs ++ [j], by omega, rfl, (unhide hQy).app (unhide Hlv) (unhide Hnl) (unhide Hj) ((unhide Hba).trans (unhide Hb rfl)) (unhide hF3) (unhide hg3) (unhide hown3)⟩, by simp [intOf]; omega⟩
                · clear x0 x2 y262 y261 y2 y260 hSm hQX hbs
                  go_wp2_with fail
                  exact ⟨⟨k + 1, by omega, rfl, near, qs, by omega, rfl, (unhide hQz).skip⟩, by simp [intOf]; omega⟩
            · obtain rfl : k = nl.length := by omega
              go_wp2_with fail
              go_meet
              exact ⟨qs, hQ⟩

        case rest =>
          obtain ⟨qs, hQ⟩ := hcut
          rename World => wS
          obtain ⟨qa, qc, hqe, hqs⟩ := own_shape (unhide hQ).own
          subst hqe
          have hqlen := (unhide hQ).len
          have cp := (unhide hQ).ak.fr.cell (unhide Hpb) hpf
          by_cases hq0 : qs.length = 0
          · have u2 : decide ((0 : Int) < (qs.length : Int)) = false := decide_eq_false (by omega)
            have u3 : ¬ ((0 : Int) < (qs.length : Int)) := by omega
            have y262 : wS.cell? ⟨P.X.jb, 262, none⟩ = some (.int .i64 lv) := ((unhide hQ).ak.jrow.cell (by omega)).trans (by rw [(unhide HF).f262])
            have z262 := (unhide hQ).ak.jrow.frozen 262
            clear cp
            have hnx := hide ((unhide hQ).ak.setJ 262 (.int .i64 (lv - 1)))
            have lnx : Hid (LogAt (wS.setCell ⟨P.X.jb, 262, none⟩ (.int .i64 (lv - 1))) P.lgb [] P.lv0) := (unhide hQ).lg.fr ((Fr.refl _ [P.X.jb]).set (by simp) _ _) (by rw [List.mem_singleton]; exact Ne.symm (unhide hQ).ak.st.ne.2.2.1) (by rw [unhide Hlv]; intro g hg; cases hg)
            go_wp2_with fail
            refine ⟨⟨_, lv - 1, by omega, by omega, (unhide HF).level (lv - 1), ⟨unhide hnx, unhide lnx, ⟨rfl, .inl ⟨rfl, rfl⟩⟩, fun g hg => by simp [ob, Value.ownBlock] at hg, List.nodup_nil, by simp, by simp⟩⟩, ?_⟩
            have e1 : (wS.setCell ⟨P.X.jb, 262, none⟩ (.int .i64 (lv - 1))).cell? ⟨P.X.jb, 262, none⟩ = some (.int .i64 (lv - 1)) := ((unhide hnx).jrow.cell (by omega)).trans (by simp [putF])
            rw [e1, c262]
            simp [intOf]
            omega
          · have u2 : decide ((0 : Int) < (qs.length : Int)) = true := decide_eq_true (by omega)
            have u3 : (0 : Int) < (qs.length : Int) := by omega
            clear c262 c0 u1
            obtain ⟨qg, rfl, hqg⟩ : ∃ qg, qa = some ⟨qg, 0, none⟩ ∧ w.heap.size ≤ qg := by
              rcases hqs with h | ⟨qg, h1, h2⟩
              · omega
              · exact ⟨qg, h1, (unhide hQ).fz qg h2⟩
            have hqc : Hid (∀ i j, qs[i]? = some j → wS.cell? ⟨qg, i, none⟩ = some (.int .i64 ((j : Nat) : Int))) := fun i j hij => by
              obtain ⟨g2, cap2, he2, _, hc2⟩ := own_cells (unhide hQ).own (by omega)
              simp only [Value.slice.injEq, Option.some.injEq, Addr.mk.injEq] at he2
              obtain ⟨⟨rfl, _⟩, _⟩ := he2
              exact hc2 i _ (by simp [intsL, hij])
            clear hqs
            go_upto_region 25 with (go_at_call 40; refine (others_any (unhide hQ).ak.node).mono ?_; rintro e w1 ⟨ka, kn, kc, rfl, hB1'⟩; have hQ1 := hide ((unhide hQ).keep (.of_below hB1')); obtain ⟨u264, y264⟩ : ∃ u, w1.cell? ⟨P.X.jb, 264, none⟩ = some u := ⟨_, (unhide hQ1).ak.jrow.cell (by omega)⟩; have z264 := (unhide hQ1).ak.jrow.frozen 264; have hB1 := hide hB1'; clear hB1')
            obtain ⟨wT, hwT⟩ : ∃ wT, wT = w1.setCell ⟨P.X.jb, 264, none⟩ (.slice ka kn kc) := ⟨_, rfl⟩
            rw [← hwT]
            have hl0 : ob P.lv0 = [] := by rw [unhide Hlv]; rfl
            have hAT : AK w wT P (putF F 264 (.slice ka kn kc)) rr nl askS (fun _ => false) na 0 m [] := by rw [hwT]; exact (unhide hQ1).ak.setJ 264 _
            have lgT : LogAt wT P.lgb [] P.lv0 := by rw [hwT]; exact (unhide hQ1).lg.fr ((Fr.refl _ [P.X.jb]).set (by simp) _ _) (by rw [List.mem_singleton]; exact Ne.symm (unhide hQ1).ak.st.ne.2.2.1) (by rw [hl0]; simp)
            have hjlt := (unhide hQ1).ak.st.lt P.X.jb (by simp)
            have hqT : Hid (∀ i j, qs[i]? = some j → wT.cell? ⟨qg, i, none⟩ = some (.int .i64 ((j : Nat) : Int))) := fun i j hij => by
              rw [hwT, World.cell?_of_block (a := ⟨qg, i, none⟩) (Below.heap_setCell _ _ _ _ (by show qg ≠ P.X.jb; omega))]
              exact cell_stays (unhide hB1) (unhide hqc i j hij)
            have hqf : qg ∉ P.X.nb :: P.X.jb :: P.ab :: P.zb :: P.lgb :: (ob P.v ++ ob P.lv0) := fun hm => by
              simp only [List.mem_cons, List.mem_append, hl0, List.not_mem_nil, or_false] at hm
              have st := (unhide hQ1).ak.st
              rcases hm with h | h | h | h | h | h
              · have := st.lt P.X.nb (by simp); omega
              · omega
              · have := st.lt P.ab (by simp); omega
              · have := st.lt P.zb (by simp); omega
              · have := st.lt P.lgb (by simp); omega
              · have := st.lv qg h; omega
            have hFT := hide ((unhide HF).put (i := 264) (by omega) (.slice ka kn kc))
            have hcpT := hide (hAT.fr.cell (unhide Hpb) hpf)
            have hst4 : Hid (A4 wT wT P (putF F 264 (.slice ka kn kc)) rr nl qs askS ka kn kc 0) := ⟨na, m, by omega, by simpa [askF_nil] using hAT.rebase (unhide Hlv) lgT⟩
            have HAT := hide hAT
            have hqnd := hide (unhide hQ).nd
            have hqsub := hide (unhide hQ).sub
            clear hwT y264 z264 hQ1 hB1 hAT lgT hqc
            go_wp2_with fail
            go_loopw [144] (fun iv wr4 => ∃ k : Nat, k ≤ qs.length ∧ iv = .int .i64 (k : Int) ∧ Hid (A4 wT wr4 P (putF F 264 (.slice ka kn kc)) rr nl qs askS ka kn kc k)) (fun iv _ => qs.length - (intOf iv).toNat)
            case atStart => exact ⟨0, by omega, rfl, hst4⟩
            case round =>
              obtain ⟨k, hk, rfl, h4⟩ := hrel
              rename World => wr4
              by_cases hkl : k < qs.length
              · obtain ⟨j, hj⟩ : ∃ j, qs[k]? = some j := ⟨_, List.getElem?_eq_getElem hkl⟩
                have hjq := unhide hqsub j (List.mem_of_getElem? hj)
                have hjN := (unhide HAT).nlt j (List.mem_of_mem_take hjq.1)
                have m1 := (unhide h4).fr.cell (unhide hqT k j hj) hqf
                obtain ⟨w5, w6, hr1, hr2, s1, b1, s2, b2, hcall⟩ := (unhide h4).steps hj (unhide hqnd) hjN (by omega)
                obtain ⟨na4, m4, _, hK4⟩ := unhide h4
                have ne := hK4.st.ne
                have y2 : wr4.cell? ⟨P.X.jb, 2, none⟩ = some (.map (some P.ab)) := (hK4.jrow.cell (by omega)).trans (by rw [(unhide hFT).f2])
                have y263 : w5.cell? ⟨P.X.jb, 263, none⟩ = some (.map (some P.zb)) := (World.cell?_of_block (a := ⟨P.X.jb, 263, none⟩) (b1 P.X.jb ne.1)).trans ((hK4.jrow.cell (by omega)).trans (by rw [(unhide hFT).f263]))
                have e264 : wr4.cell? ⟨P.X.jb, 264, none⟩ = some (.slice ka kn kc) := (hK4.jrow.cell (by omega)).trans (by simp [putF])
                have y264 : w6.cell? ⟨P.X.jb, 264, none⟩ = some (.slice ka kn kc) := (World.cell?_of_block (a := ⟨P.X.jb, 264, none⟩) (b2 P.X.jb ne.1 ne.2.1)).trans e264
                have e0 : wr4.cell? ⟨P.X.nb, 0, none⟩ = some (.int .i64 ((P.X.s : Nat) : Int)) := (hK4.node.row.cell (by omega)).trans (by simp [ndF, hK4.node.r0])
                have y0 : w6.cell? ⟨P.X.nb, 0, none⟩ = some (.int .i64 ((P.X.s : Nat) : Int)) := (World.cell?_of_block (a := ⟨P.X.nb, 0, none⟩) (b2 P.X.nb ne.2.2.2.1 ne.2.2.2.2.1)).trans e0
                have ep := (unhide h4).fr.cell (unhide hcpT) hpf
                have hpf2 := hpf
                simp only [List.mem_cons, not_or] at hpf2
                have yp : w6.cell? ⟨pb, 0, none⟩ = some (.pointer (some ⟨P.X.nb, 0, none⟩)) := (World.cell?_of_block (a := ⟨pb, 0, none⟩) (b2 pb hpf2.2.2.1 hpf2.2.2.2.1)).trans ep
                have hbt := buildAsk ((P.X.s : Nat) : Int) ka kn kc
                have k0 : (0 : Int) ≤ (k : Int) := by omega
                have k1 : (k : Int) < (qs.length : Int) := by omega
                have Hcall := hide hcall
                clear hcall hK4 ne b1 b2 s1 s2 hjq e264 e0 ep hpf2
                go_upto_region 30 with fail
                go_region_held3 (fun w' => w'.cell? ⟨P.X.jb, 264, none⟩ = some (.slice ka kn kc) ∧ w'.cell? ⟨P.X.nb, 0, none⟩ = some (.int .i64 ((P.X.s : Nat) : Int)) ∧ w'.cell? ⟨pb, 0, none⟩ = some (.pointer (some ⟨P.X.nb, 0, none⟩)))
                  ((first | exact ⟨y264, y0, yp⟩ | exact ⟨y264', y0', yp'⟩))
                  ((refine (unhide Hcall).mono ?_; rintro e w7 ⟨rfl, h4'⟩; have yp' := h4'.fr.cell (unhide hcpT) hpf; have y264' : w7.cell? ⟨P.X.jb, 264, none⟩ = some (.slice ka kn kc) := (by obtain ⟨na7, m7, _, hK7⟩ := h4'; exact (hK7.jrow.cell (by omega)).trans (by simp [putF])); have y0' : w7.cell? ⟨P.X.nb, 0, none⟩ = some (.int .i64 ((P.X.s : Nat) : Int)) := (by obtain ⟨na7, m7, _, hK7⟩ := h4'; exact (hK7.node.row.cell (by omega)).trans (by simp [ndF, hK7.node.r0])); have h5 := hide h4'; clear h4'))
                go_wp2_with fail
                exact ⟨⟨k + 1, by omega, rfl, h5⟩, by simp [intOf]; omega⟩
              · obtain rfl : k = qs.length := by omega
                go_wp2_with fail
                obtain ⟨na4, m4, _, hK4⟩ := unhide h4
                rw [List.take_length] at hK4
                refine bodyPost_ret (results_none (by rfl) _ _ _) rfl ⟨rfl, _, rr, nl, _, _, _, _, _, _, hK4.unbase (unhide HAT), (unhide hFT).f2, (unhide hFT).f263, fun j hj => askF_old (unhide Hask j hj), unhide H519, .inr ⟨unhide H518, ?_, by simp, fun e he => ?_⟩⟩
                · intro h
                  have h2 := congrArg List.length h
                  rw [List.length_map] at h2
                  exact hq0 h2
                · obtain ⟨j, hj, rfl⟩ := List.mem_map.1 he
                  exact ⟨rfl, rfl, j, rfl, (unhide HAT).nlt j (List.mem_of_mem_take (unhide hqsub j hj).1), askF_mem hj, askF_mem hj⟩
      · have u1 : decide (0 ≤ lv) = false := by simp; omega
        go_wp2_with fail
        go_meet
        exact ⟨F, lv, HF, (unhide hA).ak⟩
  case rest =>
    obtain ⟨F, lv, HF, hA⟩ := hcut
    exact (by assumption : ∀ (a : Act) (w0 : World), Code.wp Ybaz.prog atail6 (bodyPost Ybaz.prog Ybaz.f26 fun e w' => e = .returned (.tuple #[]) ∧ AR w w' P askS0) a w0 → _) _ _ (an_t6 (unhide hA) (unhide HF) (unhide Hpb) hpf (unhide Hask) (unhide H519))


end Go.Proofs.YbulkbtkoGreatFmt

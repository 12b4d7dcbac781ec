import Derived.Test.YbulkbtkoGreatFmtExp0
namespace Go.Proofs.YbulkbtkoGreatFmt
open Go.RowKit
set_option linter.unusedVariables false
set_option linter.unusedSimpArgs false

set_option maxHeartbeats 8000000 in
set_option maxRecDepth 100000 in
theorem exp_t3 {w wq : World} {wsb ib cb lb N s rb xb : Nat} {id cw : Nat → Nat} {cI : Nat → Int} {inL : Nat → Bool} (hW : WS w wsb ib cb lb N s id cw inL) (hid : ∀ i, id i < 18446744073709551616)
    (hinj : ∀ i j, i < N → j < N → id i = id j → i = j) (hcw : ∀ i, Reads (cw i) (cI i)) (hN : N ≤ 300) (hs : s < N) (hX : XL w wq rb xb (layT id s 16 0)) {q1 q4 q5 q6 q7 q8 q9 q10 q11 q12 q13 q14 q15 q16 q17 q18 q19 q20 q21 q22 q23 q24 q25 q26 q27 q28 q29 q30 q31 q32 q33 q34 q35 q36 q37 q38 q39 q40 q41 q42 q43 q44 q45 q46 q47 q48 q49 q50 q51 q52 q53 q54 q55 q56 q57 q58 q59 q60 q61 q62 q63 q64 q65 q66 q67 q68 q69 q70 q71 q72 q73 q74 q75 q76 q77 q78 q79 q80 q81 q82 q83 q84 q85 q86 q87 q88 q89 q90 q91 q92 q93 q94 q95 q96 q97 q98 q99 q100 q101 q102 q103 q104 q105 q106 q107 q108 q109 q110 q111 q112 q113 q114 q115 q116 q117 q118 q119 q120 q121 q122 q123 q124 q125 q126 q127 q128 q129 q130 q131 q132 q133 q134 q135 q136 q137 q138 q139 q140 q141 q142 q143 q144 q145 q146 q147 q148 q149 q150 q151 q152 q153 q154 q155 q156 : Value} :
    Code.wp Ybaz.prog etail3 (bodyPost Ybaz.prog Ybaz.f9 fun e w' => ∃ T, e = .returned (.agg (tabL T).toArray) ∧ Below w.heap.size w w' ∧ Spec cI id s ((List.range N).filter inL) T) ⟨#[.pointer (some ⟨wsb, 0, none⟩), q1, .pointer (some ⟨rb, 0, none⟩), .pointer (some ⟨xb, 0, none⟩), q4, q5, q6, q7, q8, q9, q10, q11, q12, q13, q14, q15, q16, q17, q18, q19, q20, q21, q22, q23, q24, q25, q26, q27, q28, q29, q30, q31, q32, q33, q34, q35, q36, q37, q38, q39, q40, q41, q42, q43, q44, q45, q46, q47, q48, q49, q50, q51, q52, q53, q54, q55, q56, q57, q58, q59, q60, q61, q62, q63, q64, q65, q66, q67, q68, q69, q70, q71, q72, q73, q74, q75, q76, q77, q78, q79, q80, q81, q82, q83, q84, q85, q86, q87, q88, q89, q90, q91, q92, q93, q94, q95, q96, q97, q98, q99, q100, q101, q102, q103, q104, q105, q106, q107, q108, q109, q110, q111, q112, q113, q114, q115, q116, q117, q118, q119, q120, q121, q122, q123, q124, q125, q126, q127, q128, q129, q130, q131, q132, q133, q134, q135, q136, q137, q138, q139, q140, q141, q142, q143, q144, q145, q146, q147, q148, q149, q150, q151, q152, q153, q154, q155, q156], []⟩ wq := by
  have HW := hide hW
  have i1 : (s : Int) < (N : Int) := by omega
  have i0 : (0 : Int) ≤ (s : Int) := by omega
  have hst : Hid (XA w wq rb xb s cI id inL 0 (tab0 id s)) := ⟨⟨hX.row.congr fun k hk => (by
    simp only [layT]
    rw [if_pos (by omega)]), hX.res, hX.bel, hX.ne, hX.ge, hX.geR⟩, Spec.start⟩
  clear hW hX
  conv => arg 2; simp only [etail3, Ybaz.f9, Option.getD_some, sndSeqE]
  go_wp2_with fail
  go_loopw [6] (fun jv wr => ∃ j : Nat, j ≤ N ∧ jv = .int .i64 (j : Int) ∧ ∃ T, Hid (XA w wr rb xb s cI id inL j T)) (fun jv _ => N - (intOf jv).toNat)
  case atStart => exact ⟨0, by omega, rfl, _, hst⟩
  case round =>
    obtain ⟨j, hj, rfl, T, hA⟩ := hrel
    have hWr := (unhide HW).below (unhide hA).xl.bel
    have HWr := hide hWr
    have c2 := hWr.c2
    have c3 := hWr.c3
    have c4 := hWr.c4
    have c6 := hWr.c6
    by_cases hjl : j < N
    · have k0 : (0 : Int) ≤ (j : Int) := by omega
      have k1 : (j : Int) < (N : Int) := by omega
      have l1 := hWr.inl.cell hjl
      clear hWr
      cases hin : inL j
      · rw [hin] at l1
        go_wp2_with fail
        exact ⟨⟨j + 1, by omega, rfl, T, (unhide hA).skip hin⟩, by simp [intOf]; omega⟩
      · rw [hin] at l1
        by_cases hjs : j = s
        · subst hjs
          have ht : takes cI id j T j = false := by simp [takes]
          go_wp2_with fail
          exact ⟨⟨j + 1, by omega, rfl, T, (unhide hA).learn hid hinj hs hjl hin (learn_no ht) (unhide hA).xl⟩, by simp [intOf]; omega⟩
        · have t1 : ((j : Int) == (s : Int)) = false := by simp; omega
          have t2 : ¬ (j : Int) = (s : Int) := by omega
          have hne : id s ≠ id j := fun e => hjs (hinj _ _ hs hjl e).symm
          have d0 := (unhide HWr).ids.cell hs
          have d1 := (unhide HWr).ids.cell hjl
          have f1 := (unhide HWr).cost.cell hjl
          have hsl := slot_lt (hid s) (hid j) hne
          have hsh := shD_lt (hid s) (hid j) hne
          have hdl := dig_lt (id j) (shD (id s) (id j))
          have hTs := (unhide hA).spec.slot hid (N := N) (fun k hk => by simp only [List.mem_filter, List.mem_range] at hk; omega) hne
          have hse : slotOf id s j = shD (id s) (id j) * 16 + dig (id j) (shD (id s) (id j)) := rfl
          have Hse := hide hse
          have Hne := hide hne
          have Hjs := hide hjs
          have x1 := (unhide hA).xl.cell (o := shD (id s) (id j) * 16 + dig (id j) (shD (id s) (id j))) hsl rfl
          have z1 := (unhide hA).xl.row.frozen (shD (id s) (id j) * 16 + dig (id j) (shD (id s) (id j)))
          have hzd := fun w' => zdigit_any (id j) (shD (id s) (id j)) w' (hid j) hsh
          have hzs := fun w' => zshared_any (id s) (id j) w' (hid s) (hid j)
          obtain ⟨lv, hlv⟩ : ∃ lv, shD (id s) (id j) = lv := ⟨_, rfl⟩
          rw [hlv] at x1 z1 hsh hdl hzd hzs hse
          obtain ⟨dg, hdg⟩ : ∃ dg, dig (id j) lv = dg := ⟨_, rfl⟩
          rw [hdg] at x1 z1 hdl hzd hse
          obtain ⟨so, hso⟩ : ∃ so, slotOf id s j = so := ⟨_, rfl⟩
          rw [hso] at x1 hTs hsl hse
          have Hso := hide hso
          have Hse2 := hide hse
          obtain ⟨te, hte⟩ : ∃ te, T so = te := ⟨_, rfl⟩
          rw [hte] at x1 hTs
          have Hte := hide hte
          clear hse hne hjs hlv hdg hso hte Hse
          have u0 : (0 : Int) ≤ (lv : Int) := by omega
          have u1 : (lv : Int) < 16 := by omega
          have u2 : (0 : Int) ≤ (dg : Int) := by omega
          have u3 : (dg : Int) < 16 := by omega
          have HA := hide hA
          have w0 := wr
          clear w0
          go_upto_region 14 with fail
          go_big_quiet ((go_at_call 8; exact Calls.quiet_of_same (hzs _)))
          go_upto_region 17 with (go_at_call 18; refine (hzd _).mono ?_; rintro e w1 ⟨rfl, rfl⟩)
          obtain ⟨tk, htk⟩ : ∃ tk, takes cI id s T j = tk := ⟨_, rfl⟩
          go_cut [150] (fun s150 wz => s150 = .bool tk ∧ Same wr wz)
          case first =>
            have Htk := hide htk
            clear htk
            rcases hTs with rfl | ⟨m, hm, rfl⟩
            · have ht : takes cI id s T j = true := takes_none (unhide Hjs) (by rw [unhide Hso]; exact unhide Hte)
              go_big_quiet (fail)
              go_wp2_with fail
              go_meet
              exact ⟨by rw [← unhide Htk, ht], by first | exact (Same.refl _).drewN _ | exact ((Same.refl _).drewN _).drewN _⟩
            · have ht : takes cI id s T j = bef cI id j m := takes_some (unhide Hjs) (by rw [unhide Hso]; exact unhide Hte)
              have tn2 : ¬ ((m : Int) = -1) := by omega
              have tn : ((m : Int) == -1) = false := by simp [tn2]
              have n0 : (0 : Int) ≤ (m : Int) := by omega
              have n1 : (m : Int) < (N : Int) := by omega
              have f2 := (unhide HWr).cost.cell hm
              have d2 := (unhide HWr).ids.cell hm
              have hcl := lt_of' (hcw j) (hcw m)
              have hce := eq_of' (hcw j) (hcw m)
              by_cases hlt : cI j < cI m
              · have d : decide (cI j < cI m) = true := by simp [hlt]
                rw [d] at hcl
                clear d
                go_big_quiet (fail)
                go_wp2_with fail
                go_meet
                exact ⟨by rw [← unhide Htk, ht]; simp [bef, hlt], by first | exact (Same.refl _).drewN _ | exact ((Same.refl _).drewN _).drewN _⟩
              · have d : decide (cI j < cI m) = false := by simp; omega
                rw [d] at hcl
                clear d
                by_cases heq : cI j = cI m
                · have d : decide (cI j = cI m) = true := by simp [heq]
                  rw [d] at hce
                  have Heq := hide heq
                  clear d heq
                  go_big_quiet (fail)
                  go_wp2_with fail
                  go_meet
                  exact ⟨by rw [← unhide Htk, ht]; simp [bef, hlt, unhide Heq], by first | exact (Same.refl _).drewN _ | exact ((Same.refl _).drewN _).drewN _⟩
                · have d : decide (cI j = cI m) = false := by simp [heq]
                  rw [d] at hce
                  have Heq := hide heq
                  clear d heq
                  go_big_quiet (fail)
                  go_wp2_with fail
                  go_meet
                  exact ⟨by rw [← unhide Htk, ht]; simp [bef, hlt, unhide Heq], by first | exact (Same.refl _).drewN _ | exact ((Same.refl _).drewN _).drewN _⟩
          case rest =>
            obtain ⟨rfl, hSm⟩ := hcut
            rename World => wz
            have hXz := hide ((unhide hA).xl.same hSm)
            have Htk := hide htk
            clear htk hSm
            cases tk
            · go_wp2_with fail
              exact ⟨⟨j + 1, by omega, rfl, T, (unhide hA).learn hid hinj hs hjl hin (learn_no (unhide Htk)) (unhide hXz)⟩, by simp [intOf]; omega⟩
            · have hse := unhide Hse2
              have x2 := (unhide hXz).cell (o := lv * 16 + dg) hsl hse.symm
              have z2 := (unhide hXz).row.frozen (lv * 16 + dg)
              clear hse
              go_wp2_with fail
              refine ⟨⟨j + 1, by omega, rfl, _, (unhide hA).learn hid hinj hs hjl hin (learn_yes (unhide Htk)) ((unhide hXz).put (unhide Hse2).symm (fun q => ?_))⟩, by simp [intOf]; omega⟩
              rw [unhide Hso]
    · obtain rfl : j = N := by omega
      have hXL := hide (unhide hA).xl
      have hSp := hide (unhide hA).spec
      obtain ⟨fR, hRow⟩ := (unhide hA).xl.res
      have HRow := hide hRow
      have hrange := tab_range (unhide hA).xl.row
      have hth := there_of_row hRow 0 256 (by omega)
      clear hA hRow
      go_upto_region 19 with fail
      go_wp2_with (first
        | (guard_target = wpList _ _ _ (⟨_, Op.load 45 _, _, _, _, _⟩ :: _) _ _; go_must (refine wpList_load_mid rfl 45 _ rfl xb 0 rfl _ _ hrange Ybaz.underlying45 rfl (by rw [tabL_len]; kernel_rfl) ?_; try simp only [Act.put, List.setIfInBounds_toArray, List.set_cons_zero, List.set_cons_succ]))
        | (guard_target = wpList _ _ _ (⟨_, Op.store 45 _ _, _, _, _, _⟩ :: _) _ _; go_must (refine wpList_store_mid rfl 45 _ _ rfl rb 0 (tabL T).toArray rfl rfl (by rw [List.size_toArray, tabL_len]; exact hth) (by simp only [List.size_toArray, tabL_len]; kernel_rfl) (tabL_one T) ?_; try simp only [Act.put, List.setIfInBounds_toArray, List.set_cons_zero, List.set_cons_succ])))
      refine bodyPost_ret (v := .agg (tabL T).toArray) (results_one (by rfl) rfl (run_loadVar_mid _ _ _ _ (tabL T) _ (tab_stored (unhide HRow)) Ybaz.underlying45 rfl (by rw [tabL_len]; kernel_rfl))) rfl ⟨T, rfl, ?_, unhide hSp⟩
      exact below_setCells _ (unhide hXL).geR _ _ (unhide hXL).bel

end Go.Proofs.YbulkbtkoGreatFmt

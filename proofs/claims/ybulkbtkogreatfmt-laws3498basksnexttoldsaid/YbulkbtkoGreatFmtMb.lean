import Derived.Test.YbulkbtkoGreatFmtMa
namespace Go.Proofs.YbulkbtkoGreatFmt
open Go.RowKit
set_option linter.unusedVariables false
set_option linter.unusedSimpArgs false

set_option maxHeartbeats 4000000 in
set_option maxRecDepth 100000 in
theorem m_t9 {w wZ : World} {wsb lgb : Nat} {X : Cx} {Y : Ex} {T : Nat → Int} {C : Nat → Nat} {ed : Int} {F rr : Nat → Value} {askS awS : Int → Bool} {na nw m : Nat} {L : List LogE} {lv : Value} (hF : FY w wZ wsb lgb X Y T C ed F rr askS awS na nw m L lv) {q0 q1 q2 q3 q4 q5 q6 q7 q8 q9 q10 q11 q12 q13 q14 q19 q20 q21 q22 q23 q24 q25 q26 q27 q28 q29 q30 q31 q32 q33 q34 q35 q36 q37 q38 q39 q40 q41 q42 q43 q44 q45 q46 q47 q48 q49 q50 q51 q52 q53 q54 q55 q56 q57 q58 q59 q60 q61 q62 q63 q64 q65 q66 q67 q68 q69 q70 q71 q72 q73 q74 q75 q76 q77 q78 q79 q80 q81 q82 q83 q84 q85 q86 q87 q88 q89 q90 q91 q92 q93 q94 q95 q96 q97 q98 q99 q100 q101 q102 q103 q104 q105 q106 q107 q108 q109 q110 q111 q112 q113 q114 q115 q116 q117 q118 q119 q120 q121 q122 q123 q124 q125 q126 q127 q128 q129 q130 q131 q132 q133 q134 q135 q136 q137 q138 q139 q140 q141 q142 q143 q144 q145 q146 q147 q148 q149 q150 q151 q152 q153 q154 q155 q156 q157 q158 q159 q160 q161 q162 q163 q164 q165 q166 q167 q168 q169 q170 q171 q172 q173 q174 q175 q176 q177 q178 q179 q180 q181 q182 q183 q184 q185 q186 q187 q188 q189 q190 q191 q192 q193 : Value} :
    Code.wp Ybaz.prog mtail9 (bodyPost Ybaz.prog Ybaz.f4 fun e w' => e = .returned (.bool true) ∧ Below w.heap.size w w') ⟨#[q0, q1, q2, q3, q4, q5, q6, q7, q8, q9, q10, q11, q12, q13, q14, .pointer (some ⟨wsb, 0, none⟩), .pointer (some ⟨X.nb, 0, none⟩), .pointer (some ⟨X.jb, 0, none⟩), .pointer (some ⟨lgb, 0, none⟩), q19, q20, q21, q22, q23, q24, q25, q26, q27, q28, q29, q30, q31, q32, q33, q34, q35, q36, q37, q38, q39, q40, q41, q42, q43, q44, q45, q46, q47, q48, q49, q50, q51, q52, q53, q54, q55, q56, q57, q58, q59, q60, q61, q62, q63, q64, q65, q66, q67, q68, q69, q70, q71, q72, q73, q74, q75, q76, q77, q78, q79, q80, q81, q82, q83, q84, q85, q86, q87, q88, q89, q90, q91, q92, q93, q94, q95, q96, q97, q98, q99, q100, q101, q102, q103, q104, q105, q106, q107, q108, q109, q110, q111, q112, q113, q114, q115, q116, q117, q118, q119, q120, q121, q122, q123, q124, q125, q126, q127, q128, q129, q130, q131, q132, q133, q134, q135, q136, q137, q138, q139, q140, q141, q142, q143, q144, q145, q146, q147, q148, q149, q150, q151, q152, q153, q154, q155, q156, q157, q158, q159, q160, q161, q162, q163, q164, q165, q166, q167, q168, q169, q170, q171, q172, q173, q174, q175, q176, q177, q178, q179, q180, q181, q182, q183, q184, q185, q186, q187, q188, q189, q190, q191, q192, q193], []⟩ wZ := by
  have g518 : wZ.cell? ⟨X.nb, 518, none⟩ = some (rr 518) := (hF.node.row.cell (by omega)).trans (by simp [ndF])
  have hmx' : L.length ≤ 9223372036854775807 := own_max hF.log.own
  obtain ⟨la, lc, hle, hls⟩ := own_shape hF.log.own
  have c18 : wZ.cell? ⟨lgb, 0, none⟩ = some (.slice la L.length lc) := (hF.log.row.cell (show 0 < 1 by omega)).trans (by rw [hle])
  have g263 : wZ.cell? ⟨X.jb, 263, none⟩ = some (.map (some Y.zb)) := (hF.jrow.cell (by omega)).trans (by rw [hF.f263])
  have lnZ := fun n ty => (hF.same (((Same.refl wZ).drewN n).below _)).awaited.len ty
  have hN := hF.hN
  have Hle := hide hle
  have Halt := hide hF.alt
  clear hle hls
  have HF := hide hF
  clear hF
  conv => arg 2; simp only [mtail9, Ybaz.f4, Option.getD_some, sndSeq]
  dsimp only
  rcases unhide Halt with ⟨h518, hall⟩ | ⟨h518, hL0, hnw, hall⟩
  · rw [h518] at g518
    have Hall := hide hall
    clear hall h518 c18 g263 lnZ
    go_upto_if 111 with fail
    go_cut [] (fun wy => wy = wZ)
    case first =>
      go_wp2_with fail
      go_meet
      rfl
    case rest =>
      obtain rfl := hcut
      exact (by assumption : ∀ (a : Act) (w0 : World), Code.wp Ybaz.prog mtail10 (bodyPost Ybaz.prog Ybaz.f4 fun e w' => e = .returned (.bool true) ∧ Below w.heap.size w w') a w0 → _) _ _ (m_t10 (unhide Hall) (unhide HF))
  · rw [h518] at g518
    have hLl : 0 < L.length := List.length_pos_iff.2 hL0
    have u1 : ((L.length : Int) == 0) = false := by
      rw [beq_eq_false_iff_ne]
      omega
    have u1' : ¬ (L.length : Int) = 0 := by omega
    simp only [hnw] at lnZ
    have Hall := hide hall
    clear hall h518 hnw hL0
    go_upto_region 13 with fail
    go_cut [124] (fun s124 wq => s124 = .bool false ∧ Same wZ wq)
    case first =>
      go_big_quiet (fail)
      go_wp2_with fail
      go_meet
      exact ⟨rfl, (Same.refl _).drewN _⟩
    case rest =>
      obtain ⟨rfl, hSm⟩ := hcut
      rename World => wa
      have hFa := hide ((unhide HF).same (hSm.below _))
      have c18a := (hSm.cell _).trans c18
      clear c18 g263 lnZ g518 hSm u1 u1'
      go_upto_block 0 with fail
      go_cut [] (fun wq => Below w.heap.size w wq)
      case first =>
        go_wp2_with fail
        go_loopw [127] (fun iv wq => ∃ k : Nat, k ≤ L.length ∧ iv = .int .i64 (k : Int) ∧ Hid (FY w wq wsb lgb X Y T C ed F rr askS awS na nw m L lv)) (fun iv _ => L.length - (intOf iv).toNat)
        case atStart => exact ⟨0, by omega, rfl, hFa⟩
        case round =>
          obtain ⟨k, hk, rfl, hQ⟩ := hrel
          rename World => wq
          by_cases hkl : k < L.length
          · obtain ⟨g, cap, hge, _, hgc⟩ := own_cells (unhide hQ).log.own (by omega)
            obtain ⟨e, he⟩ : ∃ e, L[k]? = some e := ⟨_, List.getElem?_eq_getElem hkl⟩
            have hrg : wq.rangeAt g (k * 16) e.cells := fun q u hq => hgc _ _ (log_at L k e he q u hq)
            have hae := unhide Hall e (List.mem_of_getElem? he)
            have hsl : la = some ⟨g, 0, none⟩ := by
              rw [unhide Hle] at hge
              simp only [Value.slice.injEq] at hge
              exact hge.1
            subst hsl
            have k0 : (0 : Int) ≤ (k : Int) := by omega
            have k1 : (k : Int) < (L.length : Int) := by omega
            obtain ⟨ed0, ek, eh, ea, ena, enn, enc⟩ := e
            clear hgc hge he
            obtain ⟨hk7, ha7, j, hdj, hjN, haw, has⟩ := hae
            have hk7' : ek = 7 := hk7
            have ha7' : ea = ((X.s : Nat) : Int) := ha7
            have hdj' : ed0 = ((j : Nat) : Int) := hdj
            subst hk7' ha7' hdj'
            clear hk7 ha7 hdj
            go_upto_region 18 with (first
              | (guard_target = wpList _ _ _ (⟨_, Op.load 71 _, _, _, _, _⟩ :: _) _ _; go_must (refine wpList_load_mid rfl 71 _ rfl g (k * 16) rfl [.int .i64 ((j : Nat) : Int), .int .u8 7, .int .u64 0, .int .i64 0, .int .i64 eh, .int .i64 ((X.s : Nat) : Int), .int .i64 0, .int .i64 0, .int .u64 0, .slice ena enn enc, .slice none 0 0, .bool false, .bool false, .bool false, .bool false, .bool false] _ hrg Ybaz.underlying71 rfl info71z ?_; try simp only [Act.put, List.setIfInBounds_toArray, List.set_cons_zero, List.set_cons_succ]))
              | go_in)
            obtain ⟨wX, hwX⟩ : ∃ wX, wX = wq.alloc (.cells #[.int .i64 ((j : Nat) : Int), .int .u8 7, .int .u64 0, .int .i64 0, .int .i64 eh, .int .i64 ((X.s : Nat) : Int), .int .i64 0, .int .i64 0, .int .u64 0, .slice ena enn enc, .slice none 0 0, .bool false, .bool false, .bool false, .bool false, .bool false] 71) := ⟨_, rfl⟩
            have x0 : wX.cell? ⟨wq.heap.size, 0, none⟩ = some (.int .i64 ((j : Nat) : Int)) := by rw [hwX]; go_simp
            have x1 : wX.cell? ⟨wq.heap.size, 1, none⟩ = some (.int .u8 7) := by rw [hwX]; go_simp
            have x5 : wX.cell? ⟨wq.heap.size, 5, none⟩ = some (.int .i64 ((X.s : Nat) : Int)) := by rw [hwX]; go_simp
            have hbX : Below wq.heap.size wq wX := by rw [hwX]; exact (Below.refl _ _).alloc (Nat.le_refl _) _
            have hQX := hide ((unhide hQ).same hbX)
            rw [← hwX]
            clear hwX hbX hrg hQ
            have c4 := (unhide hQX).c4
            have y263 : wX.cell? ⟨X.jb, 263, none⟩ = some (.map (some Y.zb)) := ((unhide hQX).jrow.cell (by omega)).trans (by rw [(unhide hQX).f263])
            have y2 : wX.cell? ⟨X.jb, 2, none⟩ = some (.map (some Y.ab)) := ((unhide hQX).jrow.cell (by omega)).trans (by rw [(unhide hQX).f2])
            have lkA := fun n => ((unhide hQX).same (((Same.refl wX).drewN n).below _)).asked.look (j := ((j : Nat) : Int)) (iwf (by omega) (by omega))
            have lkZ := fun n => ((unhide hQX).same (((Same.refl wX).drewN n).below _)).awaited.look (j := ((j : Nat) : Int)) (iwf (by omega) (by omega))
            simp only [has] at lkA
            simp only [haw] at lkZ
            clear has haw
            go_cut [165] (fun s165 wz => s165 = .bool false ∧ Same wX wz)
            case first =>
              go_big_quiet (fail)
              go_wp2_with fail
              go_meet
              exact ⟨rfl, (Same.refl _).drewN _⟩
            case rest =>
              obtain ⟨rfl, hSz⟩ := hcut
              rename World => wz
              have hQz := hide ((unhide hQX).same (hSz.below _))
              clear x0 x1 x5 c4 hQX hSz y263 y2 lkA lkZ
              go_wp2_with fail
              exact ⟨⟨k + 1, by omega, rfl, hQz⟩, by simp [intOf]; omega⟩
          · obtain rfl : k = L.length := by omega
            go_wp2_with fail
            go_meet
            exact (unhide hQ).bel
      case rest =>
        go_wp2_with fail
        go_ret
        exact ⟨rfl, hcut⟩


end Go.Proofs.YbulkbtkoGreatFmt

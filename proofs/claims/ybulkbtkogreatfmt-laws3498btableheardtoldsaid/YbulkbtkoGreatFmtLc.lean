import Derived.Test.YbulkbtkoGreatFmtLb
namespace Go.Proofs.YbulkbtkoGreatFmt
open Go.RowKit
set_option linter.unusedVariables false
set_option linter.unusedSimpArgs false

theorem cntB_le (f : Nat → Bool) : ∀ n, cntB f n ≤ n
  | 0 => Nat.le_refl _
  | n + 1 => by
    have h := cntB_le f n
    simp only [cntB]
    split <;> omega

set_option maxHeartbeats 4000000 in
set_option maxRecDepth 100000 in
theorem law_t13 {w wZ : World} {wsb cab : Nat} {X : Cx} {Y : Ex} {fv v : Value} {T : Nat → Int} {C : Nat → Nat} {ed : Int} {r : Nat → Value} (hF : FZ w wZ wsb cab X Y fv v T C ed r) {q0 q1 q2 q3 q4 q5 q6 q7 q8 q9 q10 q11 q12 q13 q14 q19 q20 q21 q22 q23 q24 q25 q26 q27 q28 q29 q30 q31 q32 q33 q34 q35 q36 q37 q38 q39 q40 q41 q42 q43 q44 q45 q46 q47 q48 q49 q50 q51 q52 q53 q54 q55 q56 q57 q58 q59 q60 q61 q62 q63 q64 q65 q66 q67 q68 q69 q70 q71 q72 q73 q74 q75 q76 q77 q78 q79 q80 q81 q82 q83 q84 q85 q86 q87 q88 q89 q90 q91 q92 q93 q94 q95 q96 q97 q98 q99 q100 q101 q102 q103 q104 q105 q106 q107 q108 q109 q110 q111 q112 q113 q114 q115 q116 q117 q118 q119 q120 q121 q122 q123 q124 q125 q126 q127 q128 q129 q130 q131 q132 q133 q134 q135 q136 q137 q138 q139 q140 q141 q142 q143 q144 q145 q146 q147 q148 q149 q150 q151 q152 q153 q154 q155 q156 q157 q158 q159 q160 q161 q162 q163 q164 q165 q166 q167 q168 q169 q170 q171 q172 q173 q174 q175 q176 q177 q178 q179 q180 q181 q182 q183 q184 q185 q186 q187 q188 q189 q190 q191 q192 q193 q194 q195 q196 q197 q198 q199 q200 q201 q202 q203 q204 q205 q206 q207 q208 q209 q210 q211 q212 q213 q214 q215 q216 q217 q218 q219 q220 q221 q222 q223 q224 q225 q226 q227 q228 q229 q230 q231 q232 q233 q234 q235 q236 q237 q238 q239 q240 q241 q242 q243 q244 q245 q246 q247 q248 q249 q250 q251 q252 q253 q254 q255 q256 q257 q258 q259 q260 q261 q262 q263 q264 q265 q266 q267 q268 q269 q270 q271 q272 q273 q274 q275 q276 q277 q278 q279 q280 q281 q282 q283 q284 q285 q286 q287 q288 q289 q290 q291 q292 q293 q294 q295 q296 q297 q298 q299 q300 q301 q302 q303 q304 q305 q306 q307 q308 q309 q310 : Value} :
    Code.wp Ybaz.prog ltail13 (bodyPost Ybaz.prog Ybaz.f3 fun e w' => e = .returned (.bool true) ∧ Below w.heap.size w w') ⟨#[q0, q1, q2, q3, q4, q5, q6, q7, q8, q9, q10, q11, q12, q13, q14, .pointer (some ⟨wsb, 0, none⟩), .pointer (some ⟨X.nb, 0, none⟩), .pointer (some ⟨X.jb, 0, none⟩), .pointer (some ⟨cab, 0, none⟩), q19, q20, q21, q22, q23, q24, q25, q26, q27, q28, q29, q30, q31, q32, q33, q34, q35, q36, q37, q38, q39, q40, q41, q42, q43, q44, q45, q46, q47, q48, q49, q50, q51, q52, q53, q54, q55, q56, q57, q58, q59, q60, q61, q62, q63, q64, q65, q66, q67, q68, q69, q70, q71, q72, q73, q74, q75, q76, q77, q78, q79, q80, q81, q82, q83, q84, q85, q86, q87, q88, q89, q90, q91, q92, q93, q94, q95, q96, q97, q98, q99, q100, q101, q102, q103, q104, q105, q106, q107, q108, q109, q110, q111, q112, q113, q114, q115, q116, q117, q118, q119, q120, q121, q122, q123, q124, q125, q126, q127, q128, q129, q130, q131, q132, q133, q134, q135, q136, q137, q138, q139, q140, q141, q142, q143, q144, q145, q146, q147, q148, q149, q150, q151, q152, q153, q154, q155, q156, q157, q158, q159, q160, q161, q162, q163, q164, q165, q166, q167, q168, q169, q170, q171, q172, q173, q174, q175, q176, q177, q178, q179, q180, q181, q182, q183, q184, q185, q186, q187, q188, q189, q190, q191, q192, q193, q194, q195, q196, q197, q198, q199, q200, q201, q202, q203, q204, q205, q206, q207, q208, q209, q210, q211, q212, q213, q214, q215, q216, q217, q218, q219, q220, q221, q222, q223, q224, q225, q226, q227, q228, q229, q230, q231, q232, q233, q234, q235, q236, q237, q238, q239, q240, q241, q242, q243, q244, q245, q246, q247, q248, q249, q250, q251, q252, q253, q254, q255, q256, q257, q258, q259, q260, q261, q262, q263, q264, q265, q266, q267, q268, q269, q270, q271, q272, q273, q274, q275, q276, q277, q278, q279, q280, q281, q282, q283, q284, q285, q286, q287, q288, q289, q290, q291, q292, q293, q294, q295, q296, q297, q298, q299, q300, q301, q302, q303, q304, q305, q306, q307, q308, q309, q310], []⟩ wZ := by
  have hN := hF.hN
  have HF := hide hF
  clear hF
  conv => arg 2; simp only [ltail13, Ybaz.f3, Option.getD_some, sndSeq]
  dsimp only
  go_upto_block 2 with fail
  go_cut [21, 22] (fun s21 s22 wq => s21 = .int .i64 ((cntB (PSof X Y).seen X.N : Nat) : Int) ∧ s22 = .int .i64 ((cntB (PSof X Y).want X.N : Nat) : Int) ∧ Same wZ wq)
  case first =>
    go_wp2_with fail
    go_loopw [23, 21, 22] (fun jv a1 a2 wq => ∃ k : Nat, k ≤ X.N ∧ jv = .int .i64 (k : Int) ∧ a1 = .int .i64 ((cntB (PSof X Y).seen k : Nat) : Int) ∧ a2 = .int .i64 ((cntB (PSof X Y).want k : Nat) : Int) ∧ Hid (Same wZ wq)) (fun jv _ _ _ => X.N - (intOf jv).toNat)
    case atStart => exact ⟨0, by omega, rfl, rfl, rfl, Same.refl _⟩
    case round =>
      obtain ⟨k, hk, rfl, rfl, rfl, hSm⟩ := hrel
      rename World => wq
      have hFq := hide ((unhide HF).same (unhide hSm))
      have c2 := (unhide hFq).c2
      by_cases hkl : k < X.N
      · have k0 : (0 : Int) ≤ (k : Int) := by omega
        have k1 : (k : Int) < ((X.N : Nat) : Int) := by omega
        have g1 : wq.cell? ⟨X.jb, 1, none⟩ = some (.map (some X.hb)) := ((unhide hFq).jrow.cell (by omega)).trans (by simp [putF, (unhide hFq).j1])
        have g260 : wq.cell? ⟨X.jb, 260, none⟩ = some (.map (some X.qb)) := ((unhide hFq).jrow.cell (by omega)).trans (by simp [putF, (unhide hFq).j260])
        have c7 := (unhide hFq).c7
        have c9 := (unhide hFq).c9
        have lk1 := fun n => ((unhide hFq).same ((Same.refl wq).drewN n)).heard.look (j := ((k : Nat) : Int)) (iwf (by omega) (by omega))
        have lk2 := fun n => ((unhide hFq).same ((Same.refl wq).drewN n)).wanted.look (j := ((k : Nat) : Int)) (iwf (by omega) (by omega))
        simp only [up_nat] at lk1 lk2
        have r1 := (unhide hFq).seen.cell hkl
        have r2 := (unhide hFq).want.cell hkl
        have e1 : cntB (PSof X Y).seen (k + 1) = cntB (PSof X Y).seen k + (if (PSof X Y).seen k then 1 else 0) := rfl
        have e2 : cntB (PSof X Y).want (k + 1) = cntB (PSof X Y).want k + (if (PSof X Y).want k then 1 else 0) := rfl
        have h1 := cntB_le (PSof X Y).seen k
        have h2 := cntB_le (PSof X Y).want k
        obtain ⟨b1, hb1⟩ : ∃ b1, (PSof X Y).seen k = b1 := ⟨_, rfl⟩
        obtain ⟨b2, hb2⟩ : ∃ b2, (PSof X Y).want k = b2 := ⟨_, rfl⟩
        simp only [hb1] at lk1
        simp only [hb2] at lk2
        rw [hb1] at r1 e1
        rw [hb2] at r2 e2
        have E1 := hide e1
        have E2 := hide e2
        clear hb1 hb2 e1 e2
        obtain ⟨n1, hn1⟩ : ∃ n1, cntB (PSof X Y).seen k = n1 := ⟨_, rfl⟩
        obtain ⟨n2, hn2⟩ : ∃ n2, cntB (PSof X Y).want k = n2 := ⟨_, rfl⟩
        rw [hn1] at h1 E1 ⊢
        rw [hn2] at h2 E2 ⊢
        clear hn1 hn2
        go_upto_region 27 with fail
        go_cut [239] (fun s239 wz => s239 = .bool false ∧ Same wq wz)
        case first =>
          cases b1 <;> cases b2 <;>
          · go_big_quiet (fail)
            go_wp2_with fail
            go_meet
            exact ⟨rfl, (Same.refl _).drewN _⟩
        case rest =>
          obtain ⟨rfl, hSz⟩ := hcut
          rename World => wz
          have hSy := hide ((unhide hSm).trans hSz)
          have c7' := (hSz.cell _).trans c7
          have c9' := (hSz.cell _).trans c9
          have r1' := (hSz.cell _).trans r1
          have r2' := (hSz.cell _).trans r2
          clear lk1 lk2 r1 r2 c7 c9 g1 g260 c2 hSz
          cases b1 <;> cases b2
          · go_wp2_with fail
            exact ⟨⟨k + 1, by omega, rfl, by rw [unhide E1]; rfl, by rw [unhide E2]; rfl, hSy⟩, by simp [intOf]; omega⟩
          · go_wp2_with fail
            exact ⟨⟨k + 1, by omega, rfl, by rw [unhide E1]; rfl, by rw [unhide E2]; rfl, hSy⟩, by simp [intOf]; omega⟩
          · go_wp2_with fail
            exact ⟨⟨k + 1, by omega, rfl, by rw [unhide E1]; rfl, by rw [unhide E2]; rfl, hSy⟩, by simp [intOf]; omega⟩
          · go_wp2_with fail
            exact ⟨⟨k + 1, by omega, rfl, by rw [unhide E1]; rfl, by rw [unhide E2]; rfl, hSy⟩, by simp [intOf]; omega⟩
      · obtain rfl : k = X.N := by omega
        go_wp2_with fail
        go_meet
        exact ⟨rfl, rfl, unhide hSm⟩
  case rest =>
    obtain ⟨rfl, rfl, hSm⟩ := hcut
    exact (by assumption : ∀ (a : Act) (w0 : World), Code.wp Ybaz.prog ltail15 (bodyPost Ybaz.prog Ybaz.f3 fun e w' => e = .returned (.bool true) ∧ Below w.heap.size w w') a w0 → _) _ _ (law_t15 ((unhide HF).same hSm))


end Go.Proofs.YbulkbtkoGreatFmt

import Derived.Test.YbulkbtkoGreatFmtB29
namespace Go.Proofs.YbulkbtkoGreatFmt
open Go.RowKit
set_option linter.unusedVariables false
set_option linter.unusedSimpArgs false

set_option maxHeartbeats 4000000 in
set_option maxRecDepth 100000 in
theorem b_t28 {w wr : World} {X : Cx} {Y : Ex} {fv : Value} {hd : Bool} (h0 : BK w wr X Y (p1 X.s Y.seen0 Y.nf Y.nn) fv (fun j => decide (j ∈ Y.l))) (hmc : Y.mc = mcOf (.slice (some ⟨Y.nsb, 0, none⟩) Y.nn Y.ncap) (.slice Y.ba Y.bn Y.bcap)) (hhd : hd = (p1 X.s Y.seen0 Y.nf Y.nn).held) {q0 q1 q2 q3 q4 q5 q6 q7 q8 q9 q10 q11 q12 q13 q14 q18 q19 q21 q23 q24 q25 q26 q31 q32 q33 q36 q37 q39 q40 q45 q46 q47 q48 q49 q50 q51 q52 q53 q54 q55 q56 q57 q58 q59 q60 q61 q62 q63 q64 q65 q66 q67 q68 q69 q70 q71 q72 q73 q74 q75 q76 q77 q78 q79 q80 q81 q82 q83 q84 q85 q86 q87 q88 q89 q90 q91 q92 q93 q94 q95 q96 q97 q98 q99 q100 q101 q102 q103 q104 q105 q106 q107 q108 q109 q110 q111 q112 q113 q114 q115 q116 q117 q118 q119 q120 q121 q122 q123 q124 q125 q126 q127 q128 q129 q130 q131 q132 q133 q134 q135 q136 q137 q138 q139 q140 q141 q142 q143 q144 q145 q146 q147 q148 q149 q150 q151 q152 q153 q154 q155 q156 q157 q158 q159 q160 q161 q162 q163 q164 q165 q166 q167 q168 q169 q170 q171 q172 q173 q174 q175 q176 q177 q178 q179 q180 q181 q182 q183 q184 q185 q186 q187 q188 q189 q190 q191 q192 q193 q194 q195 q196 q197 q198 q199 q200 q201 q202 q203 q204 q205 q206 q207 q208 q209 q210 q211 q212 q213 q214 q215 q216 q217 q218 q219 q220 q221 q222 q223 q224 q225 q226 q227 q228 q229 q230 q231 q232 q233 q234 q235 q236 q237 q238 q239 q240 q241 q242 q243 q244 q245 q246 q247 q248 q249 q250 q251 q252 q253 q254 q255 q256 q257 q258 q259 q260 q261 q262 q263 q264 q265 q266 q267 q268 q269 q270 q271 q272 q273 q274 q275 q276 q277 q278 q279 q280 q281 q282 q283 q284 q285 q286 q287 q288 q289 q290 q291 q292 q293 q294 q295 q296 q297 q298 q299 q300 q301 q302 q303 q304 q305 q306 q307 q308 q309 q310 q311 q312 q313 q314 q315 q316 q317 q318 q319 q320 q321 q322 q323 q324 q325 q326 q327 q328 q329 q330 q331 q332 q333 : Value} :
    Code.wp Ybaz.prog tail28 (bodyPost Ybaz.prog Ybaz.f5 (BPost w)) ⟨#[q0, q1, q2, q3, q4, q5, q6, q7, q8, q9, q10, q11, q12, q13, q14, .int .i64 ((X.N : Nat) : Int), .slice (some ⟨X.ib, 0, none⟩) X.N X.N, .pointer (some ⟨X.vb, 0, none⟩), q18, q19, .int .i64 ((X.s : Nat) : Int), q21, .slice (some ⟨Y.lb, 0, none⟩) X.N X.N, q23, q24, q25, q26, .pointer (some ⟨X.nb, 0, none⟩), .pointer (some ⟨X.jb, 0, none⟩), .slice (some ⟨Y.sb, 0, none⟩) X.N X.N, .int .i64 ((X.l0.length : Nat) : Int), q31, q32, q33, .int .i64 ((X.snd : Nat) : Int), .slice (some ⟨Y.nsb, 0, none⟩) Y.nn Y.ncap, q36, q37, .slice Y.ba Y.bn Y.bcap, q39, q40, .pointer (some ⟨Y.xb, 0, none⟩), fv, .bool hd, .slice (some ⟨Y.wb, 0, none⟩) X.N X.N, q45, q46, q47, q48, q49, q50, q51, q52, q53, q54, q55, q56, q57, q58, q59, q60, q61, q62, q63, q64, q65, q66, q67, q68, q69, q70, q71, q72, q73, q74, q75, q76, q77, q78, q79, q80, q81, q82, q83, q84, q85, q86, q87, q88, q89, q90, q91, q92, q93, q94, q95, q96, q97, q98, q99, q100, q101, q102, q103, q104, q105, q106, q107, q108, q109, q110, q111, q112, q113, q114, q115, q116, q117, q118, q119, q120, q121, q122, q123, q124, q125, q126, q127, q128, q129, q130, q131, q132, q133, q134, q135, q136, q137, q138, q139, q140, q141, q142, q143, q144, q145, q146, q147, q148, q149, q150, q151, q152, q153, q154, q155, q156, q157, q158, q159, q160, q161, q162, q163, q164, q165, q166, q167, q168, q169, q170, q171, q172, q173, q174, q175, q176, q177, q178, q179, q180, q181, q182, q183, q184, q185, q186, q187, q188, q189, q190, q191, q192, q193, q194, q195, q196, q197, q198, q199, q200, q201, q202, q203, q204, q205, q206, q207, q208, q209, q210, q211, q212, q213, q214, q215, q216, q217, q218, q219, q220, q221, q222, q223, q224, q225, q226, q227, q228, q229, q230, q231, q232, q233, q234, q235, q236, q237, q238, q239, q240, q241, q242, q243, q244, q245, q246, q247, q248, q249, q250, q251, q252, q253, q254, q255, q256, q257, q258, q259, q260, q261, q262, q263, q264, q265, q266, q267, q268, q269, q270, q271, q272, q273, q274, q275, q276, q277, q278, q279, q280, q281, q282, q283, q284, q285, q286, q287, q288, q289, q290, q291, q292, q293, q294, q295, q296, q297, q298, q299, q300, q301, q302, q303, q304, q305, q306, q307, q308, q309, q310, q311, q312, q313, q314, q315, q316, q317, q318, q319, q320, q321, q322, q323, q324, q325, q326, q327, q328, q329, q330, q331, q332, q333], []⟩ wr := by
  have hN := h0.e0.eb.hN
  have hbn1 := h0.e0.bn1
  have hnn1 := h0.e0.nn1
  have hEB : Hid (E0s X Y wr) := h0.e0
  have hsN := h0.e0.eb.hs
  have hsnd := h0.e0.eb.hsnd
  have s0 : (0 : Int) ≤ ((X.s : Nat) : Int) := by omega
  have s1 : ((X.s : Nat) : Int) < ((X.N : Nat) : Int) := by omega
  have s2 : (0 : Int) ≤ ((X.snd : Nat) : Int) := by omega
  have s3 : ((X.snd : Nat) : Int) < ((X.N : Nat) : Int) := by omega
  have H0 := hide h0
  have Hmc := hide hmc
  have Hhd := hide hhd
  have hl1 := p1_len X.s Y.seen0 Y.nf Y.nn
  clear h0 hmc hhd
  conv => arg 2; simp only [tail28, Ybaz.f5, Option.getD_some, sndSeq]
  go_upto_block 12 with fail
  go_cut [42] (fun s42 wq => Hid (BK w wq X Y (PSof X Y) s42 (fun j => decide (j ∈ Y.l))))
  case first =>
    go_wp2_with fail
    go_loopw [262, 42] (fun iv fv wq => ∃ i : Nat, i ≤ Y.bn ∧ iv = .int .i64 (i : Int) ∧ Hid (BK w wq X Y (p2 (p1 X.s Y.seen0 Y.nf Y.nn) (fun i => bq X.cI X.id X.s X.snd (Y.bf i) (Y.bx i)) Y.bf i) fv (fun j => decide (j ∈ Y.l)))) (fun iv _ _ => Y.bn - (intOf iv).toNat)
    case atStart => exact ⟨0, by omega, rfl, H0⟩
    case round =>
      obtain ⟨i, hi, rfl, hB⟩ := hrel
      by_cases hil : i < Y.bn
      · obtain ⟨bb, hbb⟩ : ∃ bb, Y.bb = bb := ⟨_, rfl⟩
        have hba : Y.ba = some ⟨bb, 0, none⟩ := by
          rcases (unhide hEB).ba0 with h | h
          · omega
          · rw [h, hbb]
        rename World => wq
        have m20 : wq.cell? ⟨bb, i * 2, none⟩ = some (.int .i64 ((Y.bf i : Nat) : Int)) := by
          rw [Nat.mul_comm, ← hbb]
          exact (unhide hB).e0.bl0 i hil
        have m21 : wq.cell? ⟨bb, i * 2 + 1, none⟩ = some (.float .f64 (Y.bw i)) := by
          rw [Nat.mul_comm, ← hbb]
          exact (unhide hB).e0.bl1 i hil
        have k0 : (0 : Int) ≤ (i : Int) := by omega
        have k1 : (i : Int) < (Y.bn : Int) := by omega
        have hjN := (unhide hEB).bfN i
        have j0 : (0 : Int) ≤ ((Y.bf i : Nat) : Int) := by omega
        have j1 : ((Y.bf i : Nat) : Int) < ((X.N : Nat) : Int) := by omega
        have hst := fun w' => run_store Ybaz.prog w' ⟨wq.heap.size, 1, none⟩ (.float .f64 (Y.bw i)) .plain rfl
        rw [hba]
        clear hba hbb
        go_upto_region 67 with fail
        obtain ⟨wX, hwX⟩ : ∃ wX, wX = wq.alloc (.cells #[.int .i64 ((Y.bf i : Nat) : Int), .float .f64 (Y.bw i)] 78) := ⟨_, rfl⟩
        have x0 : wX.cell? ⟨wq.heap.size, 0, none⟩ = some (.int .i64 ((Y.bf i : Nat) : Int)) := by rw [hwX]; go_simp
        have x1 : wX.cell? ⟨wq.heap.size, 1, none⟩ = some (.float .f64 (Y.bw i)) := by rw [hwX]; go_simp
        have hFX : Fr wq wX [] := by rw [hwX]; exact (Fr.refl _ _).alloc _
        rw [← hwX]
        clear hwX hst m20 m21
        have hBX := hide ((unhide hB).keep hFX)
        clear hFX
        have y0 := (unhide hBX).e0.eb.net.var
        have y1 := (unhide hBX).e0.eb.net.cost.cell hjN
        have y2 := (unhide hBX).e0.eb.net.ids.cell hsN
        have y3 := (unhide hBX).e0.eb.net.ids.cell hsnd
        have hcl := lt_of' ((unhide hEB).eb.hcw (Y.bf i)) ((unhide hEB).bxr i)
        have hce := eq_of' ((unhide hEB).eb.hcw (Y.bf i)) ((unhide hEB).bxr i)
        obtain ⟨qv, hqv⟩ : ∃ qv, bq X.cI X.id X.s X.snd (Y.bf i) (Y.bx i) = qv := ⟨_, rfl⟩
        go_upto_region 69 with fail
        go_cut [292] (fun s292 wz => s292 = .bool qv ∧ Same wX wz)
        case first =>
          have Hqv := hide hqv
          clear hqv
          by_cases hlt : X.cI (Y.bf i) < Y.bx i
          · have d : decide (X.cI (Y.bf i) < Y.bx i) = true := by simp [hlt]
            rw [d] at hcl
            clear d
            go_big_quiet (fail)
            go_wp2_with fail
            go_meet
            exact ⟨by rw [← unhide Hqv]; simp [bq, hlt], (Same.refl _).drewN _⟩
          · have d : decide (X.cI (Y.bf i) < Y.bx i) = false := by simp; omega
            rw [d] at hcl
            clear d
            by_cases heq : X.cI (Y.bf i) = Y.bx i
            · have d : decide (X.cI (Y.bf i) = Y.bx i) = true := by simp [heq]
              rw [d] at hce
              have Heq := hide heq
              clear d heq
              go_big_quiet (fail)
              go_wp2_with fail
              go_meet
              exact ⟨by rw [← unhide Hqv]; simp [bq, hlt, unhide Heq], (Same.refl _).drewN _⟩
            · have d : decide (X.cI (Y.bf i) = Y.bx i) = false := by simp [heq]
              rw [d] at hce
              have Heq := hide heq
              clear d heq
              go_big_quiet (fail)
              go_wp2_with fail
              go_meet
              exact ⟨by rw [← unhide Hqv]; simp [bq, hlt, unhide Heq], (Same.refl _).drewN _⟩
        case rest =>
          obtain ⟨rfl, hSm⟩ := hcut
          rename World => wz
          have hBZ := hide ((unhide hBX).keep (.of_same hSm))
          have Hqv := hide hqv
          clear hqv hSm hBX hcl hce x0 x1 y0 y1 y2 y3
          obtain ⟨pc, hpc⟩ : ∃ pc, p2 (p1 X.s Y.seen0 Y.nf Y.nn) (fun i => bq X.cI X.id X.s X.snd (Y.bf i) (Y.bx i)) Y.bf i = pc := ⟨_, rfl⟩
          have hpn : p2 (p1 X.s Y.seen0 Y.nf Y.nn) (fun i => bq X.cI X.id X.s X.snd (Y.bf i) (Y.bx i)) Y.bf (i + 1) = pc.st2 qv (Y.bf i) := by
            simp only [p2]
            rw [hpc, unhide Hqv]
          have hlen : pc.fresh.length ≤ 601 := by
            have := p2_len (p1 X.s Y.seen0 Y.nf Y.nn) (fun i => bq X.cI X.id X.s X.snd (Y.bf i) (Y.bx i)) Y.bf i
            rw [hpc] at this
            omega
          rw [hpc] at hB hBZ
          have Hpn := hide hpn
          clear hpn hpc hB
          cases qv
          · go_wp2_with fail
            refine ⟨⟨i + 1, by omega, rfl, ?_⟩, by simp [intOf]; omega⟩
            rw [unhide Hpn]
            exact unhide hBZ
          · have e2 : pc.st2 true (Y.bf i) = { pc.hear (Y.bf i) with want := setB (pc.hear (Y.bf i)).want (Y.bf i) } := by
              have : (pc.hear (Y.bf i)).want = pc.want := by unfold PS.hear; split <;> rfl
              simp [PS.st2, this]
            have He2 := hide e2
            clear e2
            have r1 := (unhide hBZ).seen.cell hjN
            have z1 := (unhide hBZ).seen.frozen (Y.bf i)
            cases hsn : pc.seen (Y.bf i)
            · have Hsn := hide hsn
              rw [hsn] at r1
              clear hsn
              go_upto_region 73 with (guard_target = wpList _ _ _ (⟨_, Op.call { callee := Callee.builtin Builtin.append, args := _, argTypes := _ }, _, _, _, _⟩ :: _) _ _; go_must (refine wpList_app1 rfl _ _ rfl _ _ _ rfl (own_fr (unhide hBZ).fown (((Fr.refl _ [Y.sb]).set (by simp) _ _).alloc _) (fun g hg hm => (unhide hBZ).fvfar g hg (by simp at hm; simp [hm]))) _ rfl (.int .i64 ((Y.bf i : Nat) : Int)) (by go_simp) rfl (by omega) ?_; intro g cap w3 hown3' hF3' hg3'; have hown3 := hide hown3'; have hF3 := hide hF3'; have hg3 := hide hg3'; clear hown3' hF3' hg3'; try simp only [Act.put, List.setIfInBounds_toArray, List.set_cons_zero, List.set_cons_succ]))
              have hBW := hide ((unhide hBZ).hearP hjN (unhide Hsn) (unhide hown3) (unhide hF3) (unhide hg3))
              clear hown3 hF3 hg3 r1 z1
              have r2 := (unhide hBW).want.cell hjN
              have z2 := (unhide hBW).want.frozen (Y.bf i)
              go_wp2_with fail
              refine ⟨⟨i + 1, by omega, rfl, ?_⟩, by simp [intOf]; omega⟩
              rw [unhide Hpn, unhide He2]
              exact (unhide hBW).wantP _
            · have e3 : pc.hear (Y.bf i) = pc := by simp [PS.hear, hsn]
              rw [hsn] at r1
              have He3 := hide e3
              clear hsn e3
              have r2 := (unhide hBZ).want.cell hjN
              have z2 := (unhide hBZ).want.frozen (Y.bf i)
              go_wp2_with fail
              refine ⟨⟨i + 1, by omega, rfl, ?_⟩, by simp [intOf]; omega⟩
              rw [unhide Hpn, unhide He2, unhide He3]
              exact (unhide hBZ).wantP _
      · obtain rfl : i = Y.bn := by omega
        go_wp2_with fail
        go_meet
        exact hB
  case rest =>
    exact (by assumption : ∀ (a : Act) (w0 : World), Code.wp Ybaz.prog tail29 (bodyPost Ybaz.prog Ybaz.f5 (BPost w)) a w0 → _) _ _ (b_t29 (unhide hcut) (unhide Hmc) (by rw [unhide Hhd]; exact (p2_held _ _ _ _).symm) (by have := p2_len (p1 X.s Y.seen0 Y.nf Y.nn) (fun i => bq X.cI X.id X.s X.snd (Y.bf i) (Y.bx i)) Y.bf Y.bn; unfold PSof; omega))


end Go.Proofs.YbulkbtkoGreatFmt

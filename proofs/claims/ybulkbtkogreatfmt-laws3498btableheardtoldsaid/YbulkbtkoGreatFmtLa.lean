import Derived.Test.YbulkbtkoGreatFmtFz
import Derived.Test.YbulkbtkoGreatFmtEq
namespace Go.Proofs.YbulkbtkoGreatFmt
open Go.RowKit
set_option linter.unusedVariables false
set_option linter.unusedSimpArgs false

/-- What is left of the law behind its k-th statement: taken out of the loaded function, not typed. -/
noncomputable def ltail8 : Code := sndSeq (sndSeq (sndSeq (sndSeq (sndSeq (sndSeq (sndSeq (sndSeq (Ybaz.f3.body.getD .skip))))))))
noncomputable def ltail9 : Code := sndSeq (sndSeq (sndSeq (sndSeq (sndSeq (sndSeq (sndSeq (sndSeq (sndSeq (Ybaz.f3.body.getD .skip)))))))))
noncomputable def ltail12 : Code := sndSeq (sndSeq (sndSeq (sndSeq (sndSeq (sndSeq (sndSeq (sndSeq (sndSeq (sndSeq (sndSeq (sndSeq (Ybaz.f3.body.getD .skip))))))))))))
noncomputable def ltail13 : Code := sndSeq (sndSeq (sndSeq (sndSeq (sndSeq (sndSeq (sndSeq (sndSeq (sndSeq (sndSeq (sndSeq (sndSeq (sndSeq (Ybaz.f3.body.getD .skip)))))))))))))
noncomputable def ltail15 : Code := sndSeq (sndSeq (sndSeq (sndSeq (sndSeq (sndSeq (sndSeq (sndSeq (sndSeq (sndSeq (sndSeq (sndSeq (sndSeq (sndSeq (sndSeq (Ybaz.f3.body.getD .skip)))))))))))))))
noncomputable def ltail17 : Code := sndSeq (sndSeq (sndSeq (sndSeq (sndSeq (sndSeq (sndSeq (sndSeq (sndSeq (sndSeq (sndSeq (sndSeq (sndSeq (sndSeq (sndSeq (sndSeq (sndSeq (Ybaz.f3.body.getD .skip)))))))))))))))))

theorem mem_in {N : Nat} {l f : List Nat} {j : Nat} (hl : ∀ j ∈ l, j < N) (hf : ∀ j ∈ f, j < N) : j ∈ (List.range N).filter (fun i => decide (i ∈ l ++ f)) ↔ j ∈ l ++ f := by
  simp only [List.mem_filter, List.mem_range, decide_eq_true_eq]
  refine ⟨fun h => h.2, fun h => ⟨?_, h⟩⟩
  rcases List.mem_append.1 h with h | h
  · exact hl j h
  · exact hf j h
theorem yields_eql45 {ops : Array Oper} {S : World → Prop} {o : Oper} {a : Act} (hw : Region.wanted o (yielded ops a.tmps) = true) (x y : Operand) (t : TypeId) (hop : o.op = Op.binOp .eql 45 x y t)
    (T : Nat → Int) (hx : a.eval x = .agg (tabL T).toArray) (hy : a.eval y = .agg (tabL T).toArray) : YieldsIf Ybaz.prog ops S o (.bool true) a :=
  .inl ⟨hw, fun w _ => by
    unfold execOp
    simp only [hop, hx, hy, Sem.run_bind, guard45, eql45, Result.andThen_ok]
    rfl⟩

set_option maxHeartbeats 4000000 in
set_option maxRecDepth 100000 in
theorem law_t17 {w wZ : World} {wsb cab : Nat} {X : Cx} {Y : Ex} {fv v : Value} {T : Nat → Int} {C : Nat → Nat} {ed : Int} {r : Nat → Value} (hF : FZ w wZ wsb cab X Y fv v T C ed r) {q0 q1 q2 q3 q4 q5 q6 q7 q8 q9 q10 q11 q12 q13 q14 q19 q20 q21 q22 q23 q24 q25 q26 q27 q28 q29 q30 q31 q32 q33 q34 q35 q36 q37 q38 q39 q40 q41 q42 q43 q44 q45 q46 q47 q48 q49 q50 q51 q52 q53 q54 q55 q56 q57 q58 q59 q60 q61 q62 q63 q64 q65 q66 q67 q68 q69 q70 q71 q72 q73 q74 q75 q76 q77 q78 q79 q80 q81 q82 q83 q84 q85 q86 q87 q88 q89 q90 q91 q92 q93 q94 q95 q96 q97 q98 q99 q100 q101 q102 q103 q104 q105 q106 q107 q108 q109 q110 q111 q112 q113 q114 q115 q116 q117 q118 q119 q120 q121 q122 q123 q124 q125 q126 q127 q128 q129 q130 q131 q132 q133 q134 q135 q136 q137 q138 q139 q140 q141 q142 q143 q144 q145 q146 q147 q148 q149 q150 q151 q152 q153 q154 q155 q156 q157 q158 q159 q160 q161 q162 q163 q164 q165 q166 q167 q168 q169 q170 q171 q172 q173 q174 q175 q176 q177 q178 q179 q180 q181 q182 q183 q184 q185 q186 q187 q188 q189 q190 q191 q192 q193 q194 q195 q196 q197 q198 q199 q200 q201 q202 q203 q204 q205 q206 q207 q208 q209 q210 q211 q212 q213 q214 q215 q216 q217 q218 q219 q220 q221 q222 q223 q224 q225 q226 q227 q228 q229 q230 q231 q232 q233 q234 q235 q236 q237 q238 q239 q240 q241 q242 q243 q244 q245 q246 q247 q248 q249 q250 q251 q252 q253 q254 q255 q256 q257 q258 q259 q260 q261 q262 q263 q264 q265 q266 q267 q268 q269 q270 q271 q272 q273 q274 q275 q276 q277 q278 q279 q280 q281 q282 q283 q284 q285 q286 q287 q288 q289 q290 q291 q292 q293 q294 q295 q296 q297 q298 q299 q300 q301 q302 q303 q304 q305 q306 q307 q308 q309 q310 : Value} :
    Code.wp Ybaz.prog ltail17 (bodyPost Ybaz.prog Ybaz.f3 fun e w' => e = .returned (.bool true) ∧ Below w.heap.size w w') ⟨#[q0, q1, q2, q3, q4, q5, q6, q7, q8, q9, q10, q11, q12, q13, q14, .pointer (some ⟨wsb, 0, none⟩), .pointer (some ⟨X.nb, 0, none⟩), .pointer (some ⟨X.jb, 0, none⟩), .pointer (some ⟨cab, 0, none⟩), q19, q20, q21, q22, q23, q24, q25, q26, q27, q28, q29, q30, q31, q32, q33, q34, q35, q36, q37, q38, q39, q40, q41, q42, q43, q44, q45, q46, q47, q48, q49, q50, q51, q52, q53, q54, q55, q56, q57, q58, q59, q60, q61, q62, q63, q64, q65, q66, q67, q68, q69, q70, q71, q72, q73, q74, q75, q76, q77, q78, q79, q80, q81, q82, q83, q84, q85, q86, q87, q88, q89, q90, q91, q92, q93, q94, q95, q96, q97, q98, q99, q100, q101, q102, q103, q104, q105, q106, q107, q108, q109, q110, q111, q112, q113, q114, q115, q116, q117, q118, q119, q120, q121, q122, q123, q124, q125, q126, q127, q128, q129, q130, q131, q132, q133, q134, q135, q136, q137, q138, q139, q140, q141, q142, q143, q144, q145, q146, q147, q148, q149, q150, q151, q152, q153, q154, q155, q156, q157, q158, q159, q160, q161, q162, q163, q164, q165, q166, q167, q168, q169, q170, q171, q172, q173, q174, q175, q176, q177, q178, q179, q180, q181, q182, q183, q184, q185, q186, q187, q188, q189, q190, q191, q192, q193, q194, q195, q196, q197, q198, q199, q200, q201, q202, q203, q204, q205, q206, q207, q208, q209, q210, q211, q212, q213, q214, q215, q216, q217, q218, q219, q220, q221, q222, q223, q224, q225, q226, q227, q228, q229, q230, q231, q232, q233, q234, q235, q236, q237, q238, q239, q240, q241, q242, q243, q244, q245, q246, q247, q248, q249, q250, q251, q252, q253, q254, q255, q256, q257, q258, q259, q260, q261, q262, q263, q264, q265, q266, q267, q268, q269, q270, q271, q272, q273, q274, q275, q276, q277, q278, q279, q280, q281, q282, q283, q284, q285, q286, q287, q288, q289, q290, q291, q292, q293, q294, q295, q296, q297, q298, q299, q300, q301, q302, q303, q304, q305, q306, q307, q308, q309, q310], []⟩ wZ := by
  have hrange : wZ.rangeAt X.nb 3 (tabL T) := by
    intro j v hj
    unfold tabL at hj
    rw [List.getElem?_map] at hj
    by_cases hjl : j < 256
    · rw [List.getElem?_range hjl] at hj
      simp only [Option.map_some, Option.some.injEq] at hj
      rw [hF.node.row.cell (by omega), ndF_t hjl, hj]
    · rw [List.getElem?_eq_none (by simp; omega)] at hj
      cases hj
  have HF := hide hF
  clear hF
  conv => arg 2; simp only [ltail17, Ybaz.f3, Option.getD_some, sndSeq]
  dsimp only
  go_upto_region 40 with fail
  refine wp_region_held_drew (S := fun w' => w'.rangeAt X.nb 3 (tabL T)) (by kernel_rfl) hrange (fun hHeld => ?_)
  refine wpAnyH_take (i := 0) (oi := { dst := some 304, op := Op.move (Operand.tmp 16), type := 26, pos := "zz_law_s3498b.go:188", after := _, guard := none }) (v := ?_) rfl (by kernel_rfl) (by kernel_rfl) (by kernel_rfl) (fun _ _ _ h => h) (Or.inl ⟨by rfl, ?_⟩) (by assumption) ?_
  rotate_left 1
  · (intro w hSw; (try dsimp only at hSw); go_simp <;> with_reducible rfl)
  try simp only [Act.put, List.setIfInBounds_toArray, List.set_cons_zero, List.set_cons_succ]
  refine wpAnyH_take (i := 1) (oi := { dst := some 305, op := Op.nilCheck (Operand.tmp 304), type := 0, pos := "zz_law_s3498b.go:188", after := _, guard := none }) (v := ?_) rfl (by kernel_rfl) (by kernel_rfl) (by kernel_rfl) (fun _ _ _ h => h) (Or.inl ⟨by rfl, ?_⟩) (by assumption) ?_
  rotate_left 1
  · (intro w hSw; (try dsimp only at hSw); go_simp <;> with_reducible rfl)
  try simp only [Act.put, List.setIfInBounds_toArray, List.set_cons_zero, List.set_cons_succ]
  refine wpAnyH_take (i := 2) (oi := { dst := some 306, op := Op.fieldAddr 63 (Operand.tmp 305) 3, type := 0, pos := "zz_law_s3498b.go:188", after := _, guard := none }) (v := ?_) rfl (by kernel_rfl) (by kernel_rfl) (by kernel_rfl) (fun _ _ _ h => h) (Or.inl ⟨by rfl, ?_⟩) (by assumption) ?_
  rotate_left 1
  · (intro w hSw; (try dsimp only at hSw); go_simp <;> with_reducible rfl)
  try simp only [Act.put, List.setIfInBounds_toArray, List.set_cons_zero, List.set_cons_succ]
  refine wpAnyH_take (i := 3) (oi := { dst := some 307, op := Op.load 45 (Operand.tmp 306), type := 45, pos := "zz_law_s3498b.go:188", after := _, guard := none }) rfl (by kernel_rfl) (by kernel_rfl) (by kernel_rfl) (fun _ _ _ h => h) (yieldsIf_load_mid (by rfl) _ _ rfl X.nb 3 rfl (tabL T) _ (fun w h => h) Ybaz.underlying45 rfl (by rw [tabL_len]; kernel_rfl)) (by assumption) ?_
  try simp only [Act.put, List.setIfInBounds_toArray, List.set_cons_zero, List.set_cons_succ]
  refine wpAnyH_take (i := 4) (oi := { dst := some 308, op := Op.move (Operand.tmp 15), type := 24, pos := "zz_law_s3498b.go:188", after := _, guard := none }) (v := ?_) rfl (by kernel_rfl) (by kernel_rfl) (by kernel_rfl) (fun _ _ _ h => h) (Or.inl ⟨by rfl, ?_⟩) (by assumption) ?_
  rotate_left 1
  · (intro w hSw; (try dsimp only at hSw); go_simp <;> with_reducible rfl)
  try simp only [Act.put, List.setIfInBounds_toArray, List.set_cons_zero, List.set_cons_succ]
  refine wpAnyH_ready (rs := [5]) (by kernel_rfl) (by simp) ?_
  refine AllReadyH.cons (o := { dst := some 309, op := Op.call { callee := Callee.value (Operand.func 9), args := #[Operand.tmp 308], argTypes := #[24] }, type := 45, pos := "zz_law_s3498b.go:188", after := _, guard := none }) rfl (fun K hK => ?_) AllReadyH.nil
  go_simp
  refine (exptable_any (w := wZ.drew) ((unhide HF).same ((Same.refl _).drew)).ws (unhide HF).hid (unhide HF).hinj (unhide HF).hcw (unhide HF).hN (unhide HF).hs).mono ?_
  rintro e w2 ⟨T2, rfl, hB2, hS2⟩
  have hTT : T2 = T := funext fun p => (hS2.unique (unhide HF).spec (fun j => mem_in (unhide HF).hl (unhide HF).flt) p)
  subst hTT
  try (go_wp2_with fail)
  refine hK.out _ _ (range_far hrange (hB2.block X.nb (unhide HF).node.row.lt)) (fun hHeld => ?_)
  clear hK K
  try simp only [Act.put, List.setIfInBounds_toArray, List.set_cons_zero, List.set_cons_succ]
  refine wpAnyH_take (i := 6) (oi := { dst := some 310, op := Op.binOp BinOp.eql 45 (Operand.tmp 307) (Operand.tmp 309) 45, type := 4, pos := "zz_law_s3498b.go:188", after := _, guard := none }) rfl (by kernel_rfl) (by kernel_rfl) (by kernel_rfl) (fun _ _ _ h => h) (yields_eql45 (by rfl) (Operand.tmp 307) (Operand.tmp 309) 45 rfl T2 rfl rfl) (by assumption) ?_
  try simp only [Act.put, List.setIfInBounds_toArray, List.set_cons_zero, List.set_cons_succ]
  refine wpAnyH_take (i := 7) (oi := { dst := some 14, op := Op.assign (Operand.tmp 310), type := 4, pos := "zz_law_s3498b.go:188", after := _, guard := none }) (v := ?_) rfl (by kernel_rfl) (by kernel_rfl) (by kernel_rfl) (fun _ _ _ h => h) (Or.inl ⟨by rfl, ?_⟩) (by assumption) ?_
  rotate_left 1
  · (intro w hSw; (try dsimp only at hSw); go_simp <;> with_reducible rfl)
  try simp only [Act.put, List.setIfInBounds_toArray, List.set_cons_zero, List.set_cons_succ]
  refine wpAnyH_done (by kernel_rfl) ?_ _
  go_wp2_with fail
  go_ret
  exact ⟨rfl, ((unhide HF).bel.trans ((Same.refl wZ).drew.below _)).trans (hB2.mono (unhide HF).bel.size)⟩

end Go.Proofs.YbulkbtkoGreatFmt

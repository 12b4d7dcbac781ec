import Derived.Test.YbulkbtkoGreatFmtBt
namespace Go.Proofs.YbulkbtkoGreatFmt
open Go.RowKit
set_option linter.unusedVariables false
set_option linter.unusedSimpArgs false

theorem inl_step {l f : List Nat} {k j : Nat} (h : f[k]? = some j) : setB (fun n => decide (n ∈ l ++ f.take k)) j = fun n => decide (n ∈ l ++ f.take (k + 1)) := by
  funext n
  simp only [setB, List.take_add_one, h, Option.toList_some, ← List.append_assoc]
  by_cases c : n = j
  · simp [c]
  · simp [c]
theorem wsL_size (nb jb : Nat) (ib N cb : Nat) (s snd : Int) (lb sb : Nat) (fv : Value) (wb : Nat) (hd : Bool) (pc : Int) (nv bv : Value) : (wsL nb jb ib N cb s snd lb sb fv wb hd pc nv bv).size = 27 := rfl

set_option maxHeartbeats 4000000 in
set_option maxRecDepth 100000 in
theorem b_t29 {w wr : World} {X : Cx} {Y : Ex} {fv : Value} {hd : Bool} (h0 : BK w wr X Y (PSof X Y) fv (fun j => decide (j ∈ Y.l))) (hmc : Y.mc = mcOf (.slice (some ⟨Y.nsb, 0, none⟩) Y.nn Y.ncap) (.slice Y.ba Y.bn Y.bcap)) (hhd : hd = (PSof X Y).held) (hlen : (PSof X Y).fresh.length ≤ 601) {q0 q1 q2 q3 q4 q5 q6 q7 q8 q9 q10 q11 q12 q13 q14 q18 q19 q21 q23 q24 q25 q26 q31 q32 q33 q36 q37 q39 q40 q45 q46 q47 q48 q49 q50 q51 q52 q53 q54 q55 q56 q57 q58 q59 q60 q61 q62 q63 q64 q65 q66 q67 q68 q69 q70 q71 q72 q73 q74 q75 q76 q77 q78 q79 q80 q81 q82 q83 q84 q85 q86 q87 q88 q89 q90 q91 q92 q93 q94 q95 q96 q97 q98 q99 q100 q101 q102 q103 q104 q105 q106 q107 q108 q109 q110 q111 q112 q113 q114 q115 q116 q117 q118 q119 q120 q121 q122 q123 q124 q125 q126 q127 q128 q129 q130 q131 q132 q133 q134 q135 q136 q137 q138 q139 q140 q141 q142 q143 q144 q145 q146 q147 q148 q149 q150 q151 q152 q153 q154 q155 q156 q157 q158 q159 q160 q161 q162 q163 q164 q165 q166 q167 q168 q169 q170 q171 q172 q173 q174 q175 q176 q177 q178 q179 q180 q181 q182 q183 q184 q185 q186 q187 q188 q189 q190 q191 q192 q193 q194 q195 q196 q197 q198 q199 q200 q201 q202 q203 q204 q205 q206 q207 q208 q209 q210 q211 q212 q213 q214 q215 q216 q217 q218 q219 q220 q221 q222 q223 q224 q225 q226 q227 q228 q229 q230 q231 q232 q233 q234 q235 q236 q237 q238 q239 q240 q241 q242 q243 q244 q245 q246 q247 q248 q249 q250 q251 q252 q253 q254 q255 q256 q257 q258 q259 q260 q261 q262 q263 q264 q265 q266 q267 q268 q269 q270 q271 q272 q273 q274 q275 q276 q277 q278 q279 q280 q281 q282 q283 q284 q285 q286 q287 q288 q289 q290 q291 q292 q293 q294 q295 q296 q297 q298 q299 q300 q301 q302 q303 q304 q305 q306 q307 q308 q309 q310 q311 q312 q313 q314 q315 q316 q317 q318 q319 q320 q321 q322 q323 q324 q325 q326 q327 q328 q329 q330 q331 q332 q333 : Value} :
    Code.wp Ybaz.prog tail29 (bodyPost Ybaz.prog Ybaz.f5 (BPost w)) ⟨#[q0, q1, q2, q3, q4, q5, q6, q7, q8, q9, q10, q11, q12, q13, q14, .int .i64 ((X.N : Nat) : Int), .slice (some ⟨X.ib, 0, none⟩) X.N X.N, .pointer (some ⟨X.vb, 0, none⟩), q18, q19, .int .i64 ((X.s : Nat) : Int), q21, .slice (some ⟨Y.lb, 0, none⟩) X.N X.N, q23, q24, q25, q26, .pointer (some ⟨X.nb, 0, none⟩), .pointer (some ⟨X.jb, 0, none⟩), .slice (some ⟨Y.sb, 0, none⟩) X.N X.N, .int .i64 ((X.l0.length : Nat) : Int), q31, q32, q33, .int .i64 ((X.snd : Nat) : Int), .slice (some ⟨Y.nsb, 0, none⟩) Y.nn Y.ncap, q36, q37, .slice Y.ba Y.bn Y.bcap, q39, q40, .pointer (some ⟨Y.xb, 0, none⟩), fv, .bool hd, .slice (some ⟨Y.wb, 0, none⟩) X.N X.N, q45, q46, q47, q48, q49, q50, q51, q52, q53, q54, q55, q56, q57, q58, q59, q60, q61, q62, q63, q64, q65, q66, q67, q68, q69, q70, q71, q72, q73, q74, q75, q76, q77, q78, q79, q80, q81, q82, q83, q84, q85, q86, q87, q88, q89, q90, q91, q92, q93, q94, q95, q96, q97, q98, q99, q100, q101, q102, q103, q104, q105, q106, q107, q108, q109, q110, q111, q112, q113, q114, q115, q116, q117, q118, q119, q120, q121, q122, q123, q124, q125, q126, q127, q128, q129, q130, q131, q132, q133, q134, q135, q136, q137, q138, q139, q140, q141, q142, q143, q144, q145, q146, q147, q148, q149, q150, q151, q152, q153, q154, q155, q156, q157, q158, q159, q160, q161, q162, q163, q164, q165, q166, q167, q168, q169, q170, q171, q172, q173, q174, q175, q176, q177, q178, q179, q180, q181, q182, q183, q184, q185, q186, q187, q188, q189, q190, q191, q192, q193, q194, q195, q196, q197, q198, q199, q200, q201, q202, q203, q204, q205, q206, q207, q208, q209, q210, q211, q212, q213, q214, q215, q216, q217, q218, q219, q220, q221, q222, q223, q224, q225, q226, q227, q228, q229, q230, q231, q232, q233, q234, q235, q236, q237, q238, q239, q240, q241, q242, q243, q244, q245, q246, q247, q248, q249, q250, q251, q252, q253, q254, q255, q256, q257, q258, q259, q260, q261, q262, q263, q264, q265, q266, q267, q268, q269, q270, q271, q272, q273, q274, q275, q276, q277, q278, q279, q280, q281, q282, q283, q284, q285, q286, q287, q288, q289, q290, q291, q292, q293, q294, q295, q296, q297, q298, q299, q300, q301, q302, q303, q304, q305, q306, q307, q308, q309, q310, q311, q312, q313, q314, q315, q316, q317, q318, q319, q320, q321, q322, q323, q324, q325, q326, q327, q328, q329, q330, q331, q332, q333], []⟩ wr := by
  obtain ⟨fa, fc, rfl, hfa⟩ := own_shape h0.fown
  have hN := h0.e0.eb.hN
  have H0 := hide h0
  have Hmc := hide hmc
  have Hhd := hide hhd
  clear h0 hmc hhd
  conv => arg 2; simp only [tail29, Ybaz.f5, Option.getD_some, sndSeq]
  go_wp2_with fail
  go_loopw [311] (fun iv wq => ∃ k : Nat, k ≤ (PSof X Y).fresh.length ∧ iv = .int .i64 (k : Int) ∧ Hid (BK w wq X Y (PSof X Y) (.slice fa (PSof X Y).fresh.length fc) (fun j => decide (j ∈ Y.l ++ (PSof X Y).fresh.take k)))) (fun iv _ => (PSof X Y).fresh.length - (intOf iv).toNat)
  case atStart => exact ⟨0, by omega, rfl, by simpa using H0⟩
  case round =>
    obtain ⟨k, hk, rfl, hB⟩ := hrel
    by_cases hkl : k < (PSof X Y).fresh.length
    · obtain ⟨g, cap, he, hgo, hc⟩ := own_cells (unhide hB).fown (by omega)
      obtain ⟨j, hj⟩ : ∃ j, (PSof X Y).fresh[k]? = some j := ⟨_, List.getElem?_eq_getElem hkl⟩
      simp only [Value.slice.injEq] at he
      obtain ⟨rfl, _, rfl⟩ := he
      have m1 := hc k (.int .i64 ((j : Nat) : Int)) (by simp [intsL, hj])
      have hjN : j < X.N := (unhide hB).flt j (List.mem_of_getElem? hj)
      have r1 := (unhide hB).inl.cell hjN
      have z1 := (unhide hB).inl.frozen j
      have k0 : (0 : Int) ≤ (k : Int) := by omega
      have k1 : (k : Int) < ((PSof X Y).fresh.length : Int) := by omega
      have j0 : (0 : Int) ≤ ((j : Nat) : Int) := by omega
      have j1 : ((j : Nat) : Int) < ((X.N : Nat) : Int) := by omega
      have hnx := hide (inl_step (l := Y.l) hj)
      clear hc hgo hj
      go_wp2_with fail
      refine ⟨⟨k + 1, by omega, rfl, ?_⟩, by simp [intOf]; omega⟩
      have := (unhide hB).inlP j
      rw [unhide hnx] at this
      exact this
    · obtain rfl : k = (PSof X Y).fresh.length := by omega
      rename World => wq
      have hB2 : Hid (BK w wq X Y (PSof X Y) (.slice fa (PSof X Y).fresh.length fc) (fun j => decide (j ∈ Y.l ++ (PSof X Y).fresh))) := by simpa using hB
      clear hB
      have cv := (unhide hB2).e0.eb.net.var
      have hrange : wq.rangeAt Y.xb 0 (mcOf (.slice (some ⟨Y.nsb, 0, none⟩) Y.nn Y.ncap) (.slice Y.ba Y.bn Y.bcap)).toList := by
        intro j v hj
        have hm := (unhide hB2).msg
        rw [unhide Hmc] at hm
        rw [Nat.zero_add]
        simp only [World.cell?, hm]
        simpa using hj
      go_upto_region 80 with fail
      go_wp2_with (first
        | (guard_target = wpList _ _ _ (⟨_, Op.load 37 _, _, _, _, _⟩ :: _) _ _; go_must (refine wpList_load_mid rfl 37 _ rfl Y.xb 0 rfl _ _ hrange Ybaz.underlying37 rfl (by kernel_rfl) ?_; try simp only [Act.put, List.setIfInBounds_toArray, List.set_cons_zero, List.set_cons_succ]))
        | (guard_target = wpList _ _ _ (⟨_, Op.build 39 _, _, _, _, _⟩ :: _) _ _; go_must (refine wpList_build_any rfl 39 _ rfl (#[(0, .pointer (some ⟨X.nb, 0, none⟩)), (1, .pointer (some ⟨X.jb, 0, none⟩)), (2, .slice (some ⟨X.ib, 0, none⟩) X.N X.N), (3, .slice (some ⟨X.cb, 0, none⟩) X.N X.N), (4, .int .i64 ((X.s : Nat) : Int)), (5, .int .i64 ((X.snd : Nat) : Int)), (6, .slice (some ⟨Y.lb, 0, none⟩) X.N X.N), (7, .slice (some ⟨Y.sb, 0, none⟩) X.N X.N), (8, .slice fa (PSof X Y).fresh.length fc), (9, .slice (some ⟨Y.wb, 0, none⟩) X.N X.N), (10, .bool hd), (11, .int .i64 ((X.l0.length : Nat) : Int)), (12, .agg (mcOf (.slice (some ⟨Y.nsb, 0, none⟩) Y.nn Y.ncap) (.slice Y.ba Y.bn Y.bcap)))]) (by simp only [List.map_toArray, List.map_cons, List.map_nil]; rfl) _ (build39 X.nb X.jb X.ib X.N X.cb ((X.s : Nat) : Int) ((X.snd : Nat) : Int) Y.lb Y.sb fa (PSof X Y).fresh.length fc Y.wb hd ((X.l0.length : Nat) : Int) (some ⟨Y.nsb, 0, none⟩) Y.ba Y.nn Y.ncap Y.bn Y.bcap _) ?_; try simp only [Act.put, List.setIfInBounds_toArray, List.set_cons_zero, List.set_cons_succ])))
      go_ret
      have hws := rangeAt_new wq (wsL X.nb X.jb X.ib X.N X.cb ((X.s : Nat) : Int) ((X.snd : Nat) : Int) Y.lb Y.sb (.slice fa (PSof X Y).fresh.length fc) Y.wb hd ((X.l0.length : Nat) : Int) (.slice (some ⟨Y.nsb, 0, none⟩) Y.nn Y.ncap) (.slice Y.ba Y.bn Y.bcap)) 39 _ rfl
      refine ⟨_, X, Y, _, rfl, {
        bk := (unhide hB2).keep ((Fr.refl _ _).alloc _)
        c0 := hws 0 _ rfl
        c1 := hws 1 _ rfl
        c2 := hws 2 _ rfl
        c3 := hws 3 _ rfl
        c4 := hws 4 _ rfl
        c5 := hws 5 _ rfl
        c6 := hws 6 _ rfl
        c7 := hws 7 _ rfl
        c8 := hws 8 _ rfl
        c9 := hws 9 _ rfl
        c10 := by rw [← unhide Hhd]; exact hws 10 _ rfl
        c11 := hws 11 _ rfl
        cm := fun j v hj => ?_
        ge := (unhide hB2).zs }⟩
      rw [unhide Hmc] at hj
      have h1 := hws (12 + j) v
      rw [Nat.zero_add] at h1
      refine h1 ?_
      have e : ∀ (a b : List Value), a.length = 12 → (a ++ b)[12 + j]? = b[j]? := fun a b ha => by
        rw [List.getElem?_append_right (by omega), ha, Nat.add_sub_cancel_left]
      exact (e [_, _, _, _, _, _, _, _, _, _, _, _] _ rfl).trans hj

end Go.Proofs.YbulkbtkoGreatFmt

import Derived.Test.YbulkbtkoGreatFmtB28
namespace Go.Proofs.YbulkbtkoGreatFmt
open Go.RowKit
set_option linter.unusedVariables false
set_option linter.unusedSimpArgs false

theorem info3 : (Ybaz.prog.info? 3).map (fun i => (i.zero, i.size, i.bytes)) = some (some (.int .i64 0), 1, 8) := by kernel_rfl
theorem info4 : (Ybaz.prog.info? 4).map (fun i => (i.zero, i.size, i.bytes)) = some (some (.bool false), 1, 1) := by kernel_rfl
theorem info34 : (Ybaz.prog.info? 34).map (fun i => (i.zero, i.size, i.bytes)) = some (some (.int .u64 0), 1, 8) := by kernel_rfl
theorem info51 : (Ybaz.prog.info? 51).map (fun i => (i.zero, i.size, i.bytes)) = some (some (.float .f64 0), 1, 8) := by kernel_rfl
theorem made30 (n : Nat) (hn : n ≤ 600) : ∃ c : Array Value, (∀ w : World, (w.alloc (.cells c 4)).rowIs w.heap.size 4 n (fun _ => .bool false)) ∧ ∀ w : World, (Instr.makeSlice 30 (.int .i64 (n : Int)) (.int .i64 (n : Int))).run Ybaz.prog w = .ok (.slice (some ⟨w.heap.size, 0, none⟩) n n) (w.alloc (.cells c 4)) :=
  ⟨madeCells #[.bool false] n, fun w => World.rowIs_made w _ n 4, fun w => run_make_row' 30 4 (.bool false) 1 Ybaz.underlying30 info4 rfl .i64 .i64 n (by omega) (by omega) w⟩
theorem made28 (n : Nat) (hn : n ≤ 600) : ∃ c : Array Value, (∀ w : World, (w.alloc (.cells c 34)).rowIs w.heap.size 34 n (fun _ => .int .u64 0)) ∧ ∀ w : World, (Instr.makeSlice 28 (.int .i64 (n : Int)) (.int .i64 (n : Int))).run Ybaz.prog w = .ok (.slice (some ⟨w.heap.size, 0, none⟩) n n) (w.alloc (.cells c 34)) :=
  ⟨madeCells #[.int .u64 0] n, fun w => World.rowIs_made w _ n 34, fun w => run_make_row' 28 34 (.int .u64 0) 8 Ybaz.underlying28 info34 rfl .i64 .i64 n (by omega) (by omega) w⟩
theorem made29 (n : Nat) (hn : n ≤ 600) : ∃ c : Array Value, (∀ w : World, (w.alloc (.cells c 51)).rowIs w.heap.size 51 n (fun _ => .float .f64 0)) ∧ ∀ w : World, (Instr.makeSlice 29 (.int .i64 (n : Int)) (.int .i64 (n : Int))).run Ybaz.prog w = .ok (.slice (some ⟨w.heap.size, 0, none⟩) n n) (w.alloc (.cells c 51)) :=
  ⟨madeCells #[.float .f64 0] n, fun w => World.rowIs_made w _ n 51, fun w => run_make_row' 29 51 (.float .f64 0) 8 Ybaz.underlying29 info51 rfl .i64 .i64 n (by omega) (by omega) w⟩
theorem made31 (n : Nat) (hn : n ≤ 600) : ∃ c : Array Value, c.size = n ∧ ∀ w : World, (Instr.makeSlice 31 (.int .i64 0) (.int .i64 (n : Int))).run Ybaz.prog w = .ok (.slice (some ⟨w.heap.size, 0, none⟩) 0 n) (w.alloc (.cells c 3)) :=
  ⟨madeCells #[.int .i64 0] n, size_madeCells _ _, fun w => run_make_room 31 3 (.int .i64 0) 8 Ybaz.underlying31 info3 rfl .i64 .i64 n (by omega) (by omega) w⟩

/-- Ahead of the message. -/
structure BJ (w wr : World) (X : Cx) (Y : Ex) : Prop where
  e0 : E0s X Y wr
  st : BS w X Y
  bel : Below w.heap.size w wr
  xb : Y.xb = wr.heap.size
  wb : Y.wb = wr.heap.size + 1
  z : Y.Z = wr.heap.size + 2
  seen : wr.rowIs Y.sb 4 X.N (fun i => .bool (Y.seen0 i))
  inl : wr.rowIs Y.lb 4 X.N (fun i => .bool (decide (i ∈ Y.l)))
  zset : SetAt wr Y.zb 0 (fun _ => false) 0
  mc : Y.mc = mcOf (.slice (some ⟨Y.nsb, 0, none⟩) Y.nn Y.ncap) (.slice Y.ba Y.bn Y.bcap)

theorem BJ.start {w wr : World} {X : Cx} {Y : Ex} (h : BJ w wr X Y) {c : Array Value} (hc : ∀ w : World, (w.alloc (.cells c 4)).rowIs w.heap.size 4 X.N (fun _ => .bool false)) : BK w ((wr.alloc (.cells Y.mc 37)).alloc (.cells c 4)) X Y (p1 X.s Y.seen0 Y.nf 0) (.slice none 0 0) (fun j => decide (j ∈ Y.l)) := by
  have hf : Fr wr ((wr.alloc (.cells Y.mc 37)).alloc (.cells c 4)) [] := ((Fr.refl _ _).alloc _).alloc _
  refine ⟨h.e0.fr hf (by simp), h.st, h.bel.trans (hf.below h.bel.size (by simp)), ?_, h.seen.of_block (hf.block _ h.seen.lt (by simp)), ?_, h.inl.of_block (hf.block _ h.inl.lt (by simp)), ?_, h.zset.of_block (hf.block _ h.zset.lt (by simp)), ⟨rfl, .inl ⟨rfl, rfl⟩⟩, ?_, ?_⟩
  · have := h.z; simp; omega
  · have h1 := hc (wr.alloc (.cells Y.mc 37))
    have e : (wr.alloc (.cells Y.mc 37)).heap.size = Y.wb := by rw [h.wb]; simp
    rw [e] at h1
    exact h1
  · rw [Below.heap_alloc _ _ _ (by have := h.xb; simp; omega), h.xb]
    exact heap_new _ _
  · intro g hg
    simp [ob, Value.ownBlock] at hg
  · intro j hj
    simp [p1] at hj

set_option maxHeartbeats 4000000 in
set_option maxRecDepth 100000 in
theorem b_t23 {w wr : World} {X : Cx} {Y : Ex} (h0 : BJ w wr X Y) {q0 q1 q2 q3 q4 q5 q6 q7 q8 q9 q10 q11 q12 q13 q14 q18 q19 q21 q23 q24 q25 q26 q31 q32 q33 q36 q37 q39 q40 q41 q42 q43 q44 q45 q46 q47 q48 q49 q50 q51 q52 q53 q54 q55 q56 q57 q58 q59 q60 q61 q62 q63 q64 q65 q66 q67 q68 q69 q70 q71 q72 q73 q74 q75 q76 q77 q78 q79 q80 q81 q82 q83 q84 q85 q86 q87 q88 q89 q90 q91 q92 q93 q94 q95 q96 q97 q98 q99 q100 q101 q102 q103 q104 q105 q106 q107 q108 q109 q110 q111 q112 q113 q114 q115 q116 q117 q118 q119 q120 q121 q122 q123 q124 q125 q126 q127 q128 q129 q130 q131 q132 q133 q134 q135 q136 q137 q138 q139 q140 q141 q142 q143 q144 q145 q146 q147 q148 q149 q150 q151 q152 q153 q154 q155 q156 q157 q158 q159 q160 q161 q162 q163 q164 q165 q166 q167 q168 q169 q170 q171 q172 q173 q174 q175 q176 q177 q178 q179 q180 q181 q182 q183 q184 q185 q186 q187 q188 q189 q190 q191 q192 q193 q194 q195 q196 q197 q198 q199 q200 q201 q202 q203 q204 q205 q206 q207 q208 q209 q210 q211 q212 q213 q214 q215 q216 q217 q218 q219 q220 q221 q222 q223 q224 q225 q226 q227 q228 q229 q230 q231 q232 q233 q234 q235 q236 q237 q238 q239 q240 q241 q242 q243 q244 q245 q246 q247 q248 q249 q250 q251 q252 q253 q254 q255 q256 q257 q258 q259 q260 q261 q262 q263 q264 q265 q266 q267 q268 q269 q270 q271 q272 q273 q274 q275 q276 q277 q278 q279 q280 q281 q282 q283 q284 q285 q286 q287 q288 q289 q290 q291 q292 q293 q294 q295 q296 q297 q298 q299 q300 q301 q302 q303 q304 q305 q306 q307 q308 q309 q310 q311 q312 q313 q314 q315 q316 q317 q318 q319 q320 q321 q322 q323 q324 q325 q326 q327 q328 q329 q330 q331 q332 q333 : Value} :
    Code.wp Ybaz.prog tail23 (bodyPost Ybaz.prog Ybaz.f5 (BPost w)) ⟨#[q0, q1, q2, q3, q4, q5, q6, q7, q8, q9, q10, q11, q12, q13, q14, .int .i64 ((X.N : Nat) : Int), .slice (some ⟨X.ib, 0, none⟩) X.N X.N, .pointer (some ⟨X.vb, 0, none⟩), q18, q19, .int .i64 ((X.s : Nat) : Int), q21, .slice (some ⟨Y.lb, 0, none⟩) X.N X.N, q23, q24, q25, q26, .pointer (some ⟨X.nb, 0, none⟩), .pointer (some ⟨X.jb, 0, none⟩), .slice (some ⟨Y.sb, 0, none⟩) X.N X.N, .int .i64 ((X.l0.length : Nat) : Int), q31, q32, q33, .int .i64 ((X.snd : Nat) : Int), .slice (some ⟨Y.nsb, 0, none⟩) Y.nn Y.ncap, q36, q37, .slice Y.ba Y.bn Y.bcap, q39, q40, q41, q42, q43, q44, q45, q46, q47, q48, q49, q50, q51, q52, q53, q54, q55, q56, q57, q58, q59, q60, q61, q62, q63, q64, q65, q66, q67, q68, q69, q70, q71, q72, q73, q74, q75, q76, q77, q78, q79, q80, q81, q82, q83, q84, q85, q86, q87, q88, q89, q90, q91, q92, q93, q94, q95, q96, q97, q98, q99, q100, q101, q102, q103, q104, q105, q106, q107, q108, q109, q110, q111, q112, q113, q114, q115, q116, q117, q118, q119, q120, q121, q122, q123, q124, q125, q126, q127, q128, q129, q130, q131, q132, q133, q134, q135, q136, q137, q138, q139, q140, q141, q142, q143, q144, q145, q146, q147, q148, q149, q150, q151, q152, q153, q154, q155, q156, q157, q158, q159, q160, q161, q162, q163, q164, q165, q166, q167, q168, q169, q170, q171, q172, q173, q174, q175, q176, q177, q178, q179, q180, q181, q182, q183, q184, q185, q186, q187, q188, q189, q190, q191, q192, q193, q194, q195, q196, q197, q198, q199, q200, q201, q202, q203, q204, q205, q206, q207, q208, q209, q210, q211, q212, q213, q214, q215, q216, q217, q218, q219, q220, q221, q222, q223, q224, q225, q226, q227, q228, q229, q230, q231, q232, q233, q234, q235, q236, q237, q238, q239, q240, q241, q242, q243, q244, q245, q246, q247, q248, q249, q250, q251, q252, q253, q254, q255, q256, q257, q258, q259, q260, q261, q262, q263, q264, q265, q266, q267, q268, q269, q270, q271, q272, q273, q274, q275, q276, q277, q278, q279, q280, q281, q282, q283, q284, q285, q286, q287, q288, q289, q290, q291, q292, q293, q294, q295, q296, q297, q298, q299, q300, q301, q302, q303, q304, q305, q306, q307, q308, q309, q310, q311, q312, q313, q314, q315, q316, q317, q318, q319, q320, q321, q322, q323, q324, q325, q326, q327, q328, q329, q330, q331, q332, q333], []⟩ wr := by
  have hN := h0.e0.eb.hN
  have hnn1 := h0.e0.nn1
  have hn0 := h0.e0.nn0
  have hEB : Hid (E0s X Y wr) := h0.e0
  obtain ⟨c30, hc30, hm30⟩ := made30 X.N (by omega)
  have hst := hide (h0.start hc30)
  have Hmc := hide h0.mc
  have hxb := h0.xb
  have hwb := h0.wb
  clear h0 hc30
  conv => arg 2; simp only [tail23, Ybaz.f5, Option.getD_some, sndSeq]
  go_upto_region 55 with (first
    | (guard_target = wpList _ _ _ (⟨_, Op.build 37 _, _, _, _, _⟩ :: _) _ _; go_must (refine wpList_build_any rfl 37 _ rfl (#[(0, .int .u8 8), (8, .slice (some ⟨Y.nsb, 0, none⟩) Y.nn Y.ncap), (9, .slice Y.ba Y.bn Y.bcap)]) (by simp only [List.map_toArray, List.map_cons, List.map_nil]; rfl) (#[.int .u8 8, .int .u64 0, .int .i64 0, .int .i64 0, .int .i64 0, .int .i64 0, .int .i64 0, .int .u64 0, .slice (some ⟨Y.nsb, 0, none⟩) Y.nn Y.ncap, .slice Y.ba Y.bn Y.bcap, .bool false, .bool false, .bool false, .bool false, .bool false]) (build37 (some ⟨Y.nsb, 0, none⟩) Y.ba Y.nn Y.ncap Y.bn Y.bcap _) ?_; try simp only [Act.put, List.setIfInBounds_toArray, List.set_cons_zero, List.set_cons_succ]))
    | go_in)
  have e37 : #[.int .u8 8, .int .u64 0, .int .i64 0, .int .i64 0, .int .i64 0, .int .i64 0, .int .i64 0, .int .u64 0, .slice (some ⟨Y.nsb, 0, none⟩) Y.nn Y.ncap, .slice Y.ba Y.bn Y.bcap, .bool false, .bool false, .bool false, .bool false, .bool false] = Y.mc := (unhide Hmc).symm
  rw [e37]
  clear e37
  obtain ⟨wA, hwA⟩ : ∃ wA, wA = (wr.alloc (.cells Y.mc 37)).alloc (.cells c30 4) := ⟨_, rfl⟩
  have e1 : (wr.alloc (.cells Y.mc 37)).heap.size = wr.heap.size + 1 := by simp
  try rw [e1]
  rw [← hwA] at hst ⊢
  rw [← hwb, ← hxb]
  clear hwA e1 hwb hxb hm30
  go_upto_block 10 with fail
  go_cut [42, 43] (fun s42 s43 wq => ∃ hd, s43 = .bool hd ∧ hd = (p1 X.s Y.seen0 Y.nf Y.nn).held ∧ Hid (BK w wq X Y (p1 X.s Y.seen0 Y.nf Y.nn) s42 (fun j => decide (j ∈ Y.l))))
  case first =>
    go_wp2_with fail
    go_loopw [240, 42, 43] (fun iv fv hv wq => ∃ k : Nat, k ≤ Y.nn ∧ iv = .int .i64 (k : Int) ∧ ∃ hd, hv = .bool hd ∧ Hid (hd = (p1 X.s Y.seen0 Y.nf k).held) ∧ Hid (BK w wq X Y (p1 X.s Y.seen0 Y.nf k) fv (fun j => decide (j ∈ Y.l)))) (fun iv _ _ _ => Y.nn - (intOf iv).toNat)
    case atStart => exact ⟨0, by omega, rfl, false, rfl, rfl, hst⟩
    case round =>
      obtain ⟨k, hk, rfl, hd, rfl, hhd, hB⟩ := hrel
      by_cases hkl : k < Y.nn
      · rename World => wq
        have m1 := (unhide hB).e0.nsl k hkl
        have k0 : (0 : Int) ≤ (k : Int) := by omega
        have k1 : (k : Int) < (Y.nn : Int) := by omega
        have hjN := (unhide hEB).nfN k
        have hlen : (p1 X.s Y.seen0 Y.nf k).fresh.length ≤ 601 := by have := p1_len X.s Y.seen0 Y.nf k; omega
        obtain ⟨pc, hpc⟩ : ∃ pc, p1 X.s Y.seen0 Y.nf k = pc := ⟨_, rfl⟩
        have hpn : p1 X.s Y.seen0 Y.nf (k + 1) = pc.st1 X.s (Y.nf k) := by
          simp only [p1]
          rw [hpc]
        rw [hpc] at hhd hB hlen
        have Hpn := hide hpn
        clear hpn hpc
        obtain ⟨j, hj⟩ : ∃ j, Y.nf k = j := ⟨_, rfl⟩
        rw [hj] at m1 hjN Hpn
        clear hj
        by_cases hjs : j = X.s
        · have e1 : pc.st1 X.s j = { pc with held := true } := by simp [PS.st1, hjs]
          have He1 := hide e1
          have t1 : (((j : Nat) : Int) == ((X.s : Nat) : Int)) = true := by simp [hjs]
          have t2 : ((j : Nat) : Int) = ((X.s : Nat) : Int) := by rw [hjs]
          clear hjs e1
          go_wp2_with fail
          refine ⟨⟨k + 1, by omega, rfl, true, rfl, ?_, ?_⟩, by simp [intOf]; omega⟩
          · rw [unhide Hpn, unhide He1]; rfl
          · rw [unhide Hpn, unhide He1]
            have h := unhide hB
            exact ⟨h.e0, h.st, h.bel, h.zs, h.seen, h.want, h.inl, h.msg, h.zset, h.fown, h.fz, h.flt⟩
        · have t2 : ¬ ((j : Nat) : Int) = ((X.s : Nat) : Int) := by omega
          have t1 : (((j : Nat) : Int) == ((X.s : Nat) : Int)) = false := by simp; omega
          have e1 : pc.st1 X.s j = pc.hear j := by simp [PS.st1, hjs]
          have He1 := hide e1
          clear e1 hjs
          have j0 : (0 : Int) ≤ ((j : Nat) : Int) := by omega
          have j1 : ((j : Nat) : Int) < ((X.N : Nat) : Int) := by omega
          have r1 := (unhide hB).seen.cell hjN
          have z1 := (unhide hB).seen.frozen j
          cases hsn : pc.seen j
          · have Hsn := hide hsn
            rw [hsn] at r1
            have hhe : (pc.hear j).held = pc.held := by simp [PS.hear, hsn]
            clear hsn
            go_wp2_with (guard_target = wpList _ _ _ (⟨_, Op.call { callee := Callee.builtin Builtin.append, args := _, argTypes := _ }, _, _, _, _⟩ :: _) _ _; go_must (refine wpList_app1 rfl _ _ rfl _ _ _ rfl (own_fr (unhide hB).fown (((Fr.refl _ [Y.sb]).set (by simp) _ _).alloc _) (fun g hg hm => (unhide hB).fvfar g hg (by simp at hm; simp [hm]))) _ rfl (.int .i64 ((j : Nat) : Int)) (by go_simp) rfl (by omega) ?_; intro g cap w3 hown3' hF3' hg3'; have hown3 := hide hown3'; have hF3 := hide hF3'; have hg3 := hide hg3'; clear hown3' hF3' hg3'; try simp only [Act.put, List.setIfInBounds_toArray, List.set_cons_zero, List.set_cons_succ]))
            refine ⟨⟨k + 1, by omega, rfl, hd, rfl, ?_, ?_⟩, by simp [intOf]; omega⟩
            · rw [unhide Hpn, unhide He1, hhe]; exact hhd
            · rw [unhide Hpn, unhide He1]
              exact (unhide hB).hearP hjN (unhide Hsn) (unhide hown3) (unhide hF3) (unhide hg3)
          · have e3 : pc.hear j = pc := by simp [PS.hear, hsn]
            have He3 := hide e3
            rw [hsn] at r1
            clear hsn e3
            go_wp2_with fail
            refine ⟨⟨k + 1, by omega, rfl, hd, rfl, ?_, ?_⟩, by simp [intOf]; omega⟩
            · rw [unhide Hpn, unhide He1, unhide He3]; exact hhd
            · rw [unhide Hpn, unhide He1, unhide He3]; exact hB
      · obtain rfl : k = Y.nn := by omega
        go_wp2_with fail
        go_meet
        exact ⟨hd, rfl, hhd, hB⟩
  case rest =>
    obtain ⟨hd, rfl, hhd, hB⟩ := hcut
    exact (by assumption : ∀ (a : Act) (w0 : World), Code.wp Ybaz.prog tail28 (bodyPost Ybaz.prog Ybaz.f5 (BPost w)) a w0 → _) _ _ (b_t28 (unhide hB) (unhide Hmc) hhd)


end Go.Proofs.YbulkbtkoGreatFmt

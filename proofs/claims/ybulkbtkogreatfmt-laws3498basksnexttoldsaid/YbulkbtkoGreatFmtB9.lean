import Derived.Test.YbulkbtkoGreatFmtB16
namespace Go.Proofs.YbulkbtkoGreatFmt
open Go.RowKit
set_option linter.unusedVariables false
set_option linter.unusedSimpArgs false

theorem setEmpty {w : World} {b : Nat} (h : w.heap[b]? = some (.map #[] 0)) : SetAt w b 0 (fun _ => false) 0 := by
  have hb := lt_of_some h
  have hs : ({ w with heap := w.heap.extract 0 b } : World).heap.size = b := by
    show (w.heap.extract 0 b).size = b
    simp
    omega
  have h0 := SetAt.made { w with heap := w.heap.extract 0 b }
  rw [hs] at h0
  exact h0.of_block (h.trans (heap_new' (w := { w with heap := w.heap.extract 0 b }) (o := .map #[] 0) hs.symm).symm)
structure W4 (w1 wB : World) (js : Array Value) : Prop where
  size : wB.heap.size = w1.heap.size + 4
  bel : Below w1.heap.size w1 wB
  q : wB.heap[w1.heap.size]? = some (.map #[] 0)
  z : wB.heap[w1.heap.size + 1]? = some (.map #[] 0)
  row : wB.rowIs (w1.heap.size + 3) 47 267 (fun k => js[k]?.getD undef)
theorem W4.of (w1 : World) (js : Array Value) (hj : js.size = 267) : W4 w1 ((((w1.alloc (.map #[] 0)).alloc (.map #[] 0)).alloc (.map #[] 0)).alloc (.cells js 47)) js := by
  have e3 : (((w1.alloc (.map #[] 0)).alloc (.map #[] 0)).alloc (.map #[] 0)).heap.size = w1.heap.size + 3 := by simp
  refine ⟨by simp, ((((Below.refl _ w1).alloc (Nat.le_refl _) _).alloc (by simp) _).alloc (by simp <;> omega) _).alloc (by simp <;> omega) _, ?_, ?_, ?_⟩
  · rw [Below.heap_alloc _ _ _ (by simp <;> omega), Below.heap_alloc _ _ _ (by simp <;> omega), Below.heap_alloc _ _ _ (by simp)]
    exact heap_new _ _
  · rw [Below.heap_alloc _ _ _ (by simp <;> omega), Below.heap_alloc _ _ _ (by simp <;> omega)]
    exact heap_new' (by simp)
  · have h := row_new (((w1.alloc (.map #[] 0)).alloc (.map #[] 0)).alloc (.map #[] 0)) js 47 267 hj
    rw [e3] at h
    exact h
structure W7 (w1 wA : World) (js : Array Value) (N : Nat) : Prop where
  size : wA.heap.size = w1.heap.size + 7
  bel : Below w1.heap.size w1 wA
  q : wA.heap[w1.heap.size]? = some (.map #[] 0)
  z : wA.heap[w1.heap.size + 1]? = some (.map #[] 0)
  h : wA.heap[w1.heap.size + 4]? = some (.map #[] 0)
  a : wA.heap[w1.heap.size + 5]? = some (.map #[] 0)
  row : wA.rowIs (w1.heap.size + 3) 47 267 (putF (putF (fun k => js[k]?.getD undef) 1 (.map (some (w1.heap.size + 4)))) 2 (.map (some (w1.heap.size + 5))))
  seen : wA.rowIs (w1.heap.size + 6) 4 N (fun _ => .bool false)
theorem W7.of {w1 wB : World} {js c : Array Value} {N : Nat} (h : W4 w1 wB js) (hc : ∀ w : World, (w.alloc (.cells c 4)).rowIs w.heap.size 4 N (fun _ => .bool false)) :
    W7 w1 (((((wB.setCell ⟨w1.heap.size + 3, 1, none⟩ (.map (some (w1.heap.size + 4)))).setCell ⟨w1.heap.size + 3, 2, none⟩ (.map (some (w1.heap.size + 5)))).alloc (.map #[] 0)).alloc (.map #[] 0)).alloc (.cells c 4)) js N := by
  have s0 := h.size
  obtain ⟨wC, hwC⟩ : ∃ wC, wC = (wB.setCell ⟨w1.heap.size + 3, 1, none⟩ (.map (some (w1.heap.size + 4)))).setCell ⟨w1.heap.size + 3, 2, none⟩ (.map (some (w1.heap.size + 5))) := ⟨_, rfl⟩
  have s2 : wC.heap.size = w1.heap.size + 4 := by rw [hwC]; simp [s0]
  have bC : ∀ g, g ≠ w1.heap.size + 3 → wC.heap[g]? = wB.heap[g]? := fun g h2 => by
    rw [hwC, Below.heap_setCell _ _ _ _ h2, Below.heap_setCell _ _ _ _ h2]
  have rC : wC.rowIs (w1.heap.size + 3) 47 267 (putF (putF (fun k => js[k]?.getD undef) 1 (.map (some (w1.heap.size + 4)))) 2 (.map (some (w1.heap.size + 5)))) := by
    rw [hwC]
    exact (h.row.set 1 _).set 2 _
  have blC : Below w1.heap.size w1 wC := by
    rw [hwC]
    exact (h.bel.setCell (p := ⟨w1.heap.size + 3, 1, none⟩) (by show w1.heap.size ≤ w1.heap.size + 3; omega) _).setCell (p := ⟨w1.heap.size + 3, 2, none⟩) (by show w1.heap.size ≤ w1.heap.size + 3; omega) _
  rw [← hwC]
  have s3 : (wC.alloc (.map #[] 0)).heap.size = w1.heap.size + 5 := by simp [s2]
  have s4 : ((wC.alloc (.map #[] 0)).alloc (.map #[] 0)).heap.size = w1.heap.size + 6 := by simp [s2]
  have hs := hc ((wC.alloc (.map #[] 0)).alloc (.map #[] 0))
  rw [s4] at hs
  refine ⟨by simp [s2], ((blC.alloc (by omega) _).alloc (by omega) _).alloc (by omega) _, ?_, ?_, ?_, ?_, ((rC.of_block (Below.heap_alloc _ _ _ (by omega))).of_block (Below.heap_alloc _ _ _ (by omega))).of_block (Below.heap_alloc _ _ _ (by omega)), hs⟩
  · rw [Below.heap_alloc _ _ _ (by omega), Below.heap_alloc _ _ _ (by omega), Below.heap_alloc _ _ _ (by omega), bC _ (by omega)]; exact h.q
  · rw [Below.heap_alloc _ _ _ (by omega), Below.heap_alloc _ _ _ (by omega), Below.heap_alloc _ _ _ (by omega), bC _ (by omega)]; exact h.z
  · rw [Below.heap_alloc _ _ _ (by omega), Below.heap_alloc _ _ _ (by omega)]; exact heap_new' s2.symm
  · rw [Below.heap_alloc _ _ _ (by omega)]; exact heap_new' s3.symm

theorem cnt0 : ∀ n, cntB (fun _ => false) n = 0
  | 0 => rfl
  | n + 1 => by simp [cntB, cnt0 n]
theorem up0 (k : Int) : up (fun _ => false) k = false := by cases k <;> rfl

/-- The node and its search, new. -/
noncomputable def cx0 (ib cb vb N s nb Z : Nat) (id cw : Nat → Nat) (cI : Nat → Int) (T : Nat → Int) (C : Nat → Nat) (r : Nat → Value) : Cx :=
  ⟨nb, Z + 3, Z + 4, Z, ib, cb, vb, N, s, s, id, cw, cI, T, C, putF (jfOf T Z (Z + 1) (Z + 1 + 1) (Z + 4) (Z + 5)) 0 (.slice none 0 0), r, .slice none 0 0, []⟩
theorem lp_start {w1 wA : World} {N s : Nat} {id cw : Nat → Nat} {T : Nat → Int} {pv : Nat → Nat} (h : W7 w1 wA (jsArr T w1.heap.size (w1.heap.size + 1) (w1.heap.size + 1 + 1)) N) :
    LP wA wA N s id cw (w1.heap.size + 3) (w1.heap.size + 4) (w1.heap.size + 6) (jfOf T w1.heap.size (w1.heap.size + 1) (w1.heap.size + 1 + 1) (w1.heap.size + 4) (w1.heap.size + 5)) (pp N pv 0) (.slice none 0 0) 0 := by
  have sz := h.size
  refine ⟨h.row.congr fun i hi => ?_, ?_, h.seen, ⟨rfl, .inl ⟨rfl, rfl⟩⟩, Fr.refl _ _, fun g hg => by simp [ob, Value.ownBlock] at hg, ⟨by omega, by omega, by omega⟩, ⟨by omega, by omega, by omega⟩, by simp [pp]⟩
  · by_cases c : i = 0
    · subst c
      simp [jfOf, putF, js0]
    · simp only [jfOf, putF]
      rw [if_neg c]
  · have h1 := (setEmpty h.h).congr (S' := up (fun _ => false)) (fun k => (up0 k).symm)
    show SetAt wA _ 0 (up fun _ => false) (cntB (fun _ => false) N)
    rw [cnt0]
    exact h1
theorem bn_start {w wr w1 wA : World} {ib cb vb mb lb N s mm mc nb : Nat} {id cw ms : Nat → Nat} {cI : Nat → Int} {T : Nat → Int} {C : Nat → Nat} {ed : Int} {r : Nat → Value} (hA : BA w wr ib cb vb mb lb N mm mc id cw ms) (hid : ∀ i, id i < 18446744073709551616)
    (hinj : ∀ i j, i < N → j < N → id i = id j → i = j) (hcw : ∀ i, Reads (cw i) (cI i)) (hN : N ≤ 300) (hs : s < N) (hmm : mm ≤ 300) (hms : ∀ i, ms i < N) (hNN : NewN wr w1 nb ib vb N s cI id cw ((List.range mm).map ms) T C ed r)
    (h : W7 w1 wA (jsArr T w1.heap.size (w1.heap.size + 1) (w1.heap.size + 1 + 1)) N) :
    BN w wA (cx0 ib cb vb N s nb w1.heap.size id cw cI T C r) (w1.heap.size + 5) wr.heap.size (wr.heap.size + 1) (w1.heap.size + 1) (w1.heap.size + 6) lb (fun _ => false) ((List.range mm).map ms) ed r := by
  have sz := h.size
  have hn0 := hNN.at0
  have hz := hNN.size
  have hwr := hA.bel.size
  have hbA : Below wr.heap.size wr wA := hNN.bel.trans (h.bel.mono (by omega))
  have l1 := hA.net.ids.lt
  have l2 := hA.net.cost.lt
  have l3 : vb < wr.heap.size := World.block_lt_of_cell? _ _ hA.net.var
  have l4 := hA.inl.lt
  have nd := hA.nd
  have lw := hA.low
  have w1' := lw ib (by simp)
  have w2' := lw cb (by simp)
  have w3' := lw vb (by simp)
  have w4' := lw lb (by simp)
  simp only [List.mem_cons, not_or, List.not_mem_nil, not_false_eq_true, and_true, List.nodup_cons] at nd
  have hm : ∀ {b : Nat}, wA.heap[b]? = some (.map #[] 0) → SetAt wA b 0 (up fun _ => false) 0 := fun {b} e => (setEmpty e).congr (fun k => (up0 k).symm)
  exact {
    net := hA.net.of_blocks (hbA.block _ l1) (hbA.block _ l2) (hbA.block _ l3)
    hid := hid
    hinj := hinj
    hcw := hcw
    hN := hN
    hs := hs
    hsnd := hs
    hl0 := Nat.zero_le _
    j1 := by simp [cx0, jfOf, putF]
    j260 := by simp [cx0, jfOf, putF, js260]
    node := ⟨hNN.node.row.of_block (h.bel.block _ (by omega)), hNN.node.r0, hNN.node.r1, hNN.node.r2⟩
    ed0 := hNN.ed0
    ed1 := by have := hNN.ed1; simp at this; omega
    r515 := hNN.rest.r515
    r516 := hNN.rest.r516
    r520 := hNN.rest.r520
    r519 := hNN.rest.r519
    j261 := by simp [cx0, jfOf, putF, js261]
    j262 := ⟨0, by simp [cx0, jfOf, putF, js262]⟩
    jst := fun p hp => ⟨T p, by
      have h1 : ¬ 4 + p = 0 := by omega
      have h2 : ¬ 4 + p = 2 := by omega
      have h3 : ¬ 4 + p = 1 := by omega
      simp only [cx0, jfOf, putF]
      rw [if_neg h1, if_neg h2, if_neg h3, js_at _ _ _ _ p hp]
      rfl⟩
    l0nd := List.nodup_nil
    l0s := fun j hj => by cases hj
    r777 := hNN.rest.r777
    m0e := (h.bel.block _ (by omega)).trans hNN.m0
    m1e := (h.bel.block _ (by omega)).trans hNN.m1
    spec := hNN.spec
    ok := hNN.ok
    hl := fun j hj => by
      obtain ⟨i, _, rfl⟩ := List.mem_map.1 hj
      exact hms i
    jrow := (lp_start (s := s) (id := id) (cw := cw) (pv := fun _ => 0) h).jrow
    j0 := by simp [cx0, putF]
    j2 := by simp [cx0, jfOf, putF]
    j263 := by simp [cx0, jfOf, putF, js263]
    heard := by
      have h1 := (hm h.h).mono (m' := 400) (by omega)
      show SetAt wA _ 400 (up fun _ => false) (cntB (fun _ => false) N)
      rw [cnt0]
      exact h1
    wanted := (hm h.q).mono (by omega)
    own := ⟨rfl, .inl ⟨rfl, rfl⟩⟩
    asked := (hm h.a).mono (by omega)
    zset := setEmpty h.z
    seen := h.seen
    inl := hA.inl.of_block (hbA.block _ l4)
    bel := hA.bel.trans (hbA.mono hwr)
    low := fun g hg => by
      simp only [cx0, List.mem_cons, List.not_mem_nil, or_false] at hg
      omega
    nd := by
      simp only [cx0, List.mem_cons, not_or, List.not_mem_nil, not_false_eq_true, and_true, List.nodup_cons]
      repeat' apply And.intro
      all_goals first | omega | trivial | (exact List.nodup_nil) | (exact nd.1.1) | (exact nd.1.2.1) | (exact nd.1.2.2) | (exact nd.2.1.1) | (exact nd.2.1.2) | (exact nd.2.2)
    vfar := fun g hg => by simp [cx0, ob, Value.ownBlock] at hg }

theorem wpList_makeFunc {P : Program} {w : World} {ops : Array Oper} {rest : List Oper} {o : Oper} {a : Act} {Q : Exit → Act → World → Prop} (hg : o.guard = Option.none) (fn : Fn) (first cap : Array Operand) (hop : o.op = Op.makeFunc fn first cap) (v : Value)
    (hv : Value.func fn (first.map a.eval) (cap.map a.eval) = v) (hK : wpList P ops Q rest (a.put o.dst v) w) : wpList P ops Q (o :: rest) a w := by
  refine wpList_plain hg fun K' hK' => ?_
  unfold Oper.wp execOp
  simp only [hop]
  subst hv
  exact hK' _ _ hK

set_option maxHeartbeats 4000000 in
set_option maxRecDepth 100000 in
theorem b_t9 {w wr : World} {ib cb vb mb lb N s mm mc : Nat} {id cw ms : Nat → Nat} {cI : Nat → Int} {pn prc mn mgc snr bn bpc : Nat} {pv mv xn : Nat → Nat} {yc : Nat → Int} {pra mga bpa : Option Addr} (hA : BA w wr ib cb vb mb lb N mm mc id cw ms) (hid : ∀ i, id i < 18446744073709551616)
    (hinj : ∀ i j, i < N → j < N → id i = id j → i = j) (hcw : ∀ i, Reads (cw i) (cI i)) (hN : N ≤ 300) (hs : s < N) (hmm : mm ≤ 300) (hms : ∀ i, ms i < N) (hpn : pn ≤ 300) (hpr : U8 w pra pn pv) (hpv : ∀ i, pv i < 256)
    (hmn : mn ≤ 300) (hsnr : snr < 256) (hmg : U8 w mga mn mv) (hmv : ∀ i, mv i < 256) (hbn : bn ≤ 300) (hbp : Bps w bpa bn xn yc) (hxn : ∀ i, xn i < 256) (hyc : ∀ i, -128 ≤ yc i ∧ yc i ≤ 127) {q0 q1 q2 q7 q8 q9 q10 q11 q12 q13 q14 q18 q19 q23 q24 q25 q26 q27 q28 q29 q30 q31 q32 q33 q34 q35 q36 q37 q38 q39 q40 q41 q42 q43 q44 q45 q46 q47 q48 q49 q50 q51 q52 q53 q54 q55 q56 q57 q58 q59 q60 q61 q62 q63 q64 q65 q66 q67 q68 q69 q70 q71 q72 q73 q74 q75 q76 q77 q78 q79 q80 q81 q82 q83 q84 q85 q86 q87 q88 q89 q90 q91 q92 q93 q94 q95 q96 q97 q98 q99 q100 q101 q102 q103 q104 q105 q106 q107 q108 q109 q110 q111 q112 q113 q114 q115 q116 q117 q118 q119 q120 q121 q122 q123 q124 q125 q126 q127 q128 q129 q130 q131 q132 q133 q134 q135 q136 q137 q138 q139 q140 q141 q142 q143 q144 q145 q146 q147 q148 q149 q150 q151 q152 q153 q154 q155 q156 q157 q158 q159 q160 q161 q162 q163 q164 q165 q166 q167 q168 q169 q170 q171 q172 q173 q174 q175 q176 q177 q178 q179 q180 q181 q182 q183 q184 q185 q186 q187 q188 q189 q190 q191 q192 q193 q194 q195 q196 q197 q198 q199 q200 q201 q202 q203 q204 q205 q206 q207 q208 q209 q210 q211 q212 q213 q214 q215 q216 q217 q218 q219 q220 q221 q222 q223 q224 q225 q226 q227 q228 q229 q230 q231 q232 q233 q234 q235 q236 q237 q238 q239 q240 q241 q242 q243 q244 q245 q246 q247 q248 q249 q250 q251 q252 q253 q254 q255 q256 q257 q258 q259 q260 q261 q262 q263 q264 q265 q266 q267 q268 q269 q270 q271 q272 q273 q274 q275 q276 q277 q278 q279 q280 q281 q282 q283 q284 q285 q286 q287 q288 q289 q290 q291 q292 q293 q294 q295 q296 q297 q298 q299 q300 q301 q302 q303 q304 q305 q306 q307 q308 q309 q310 q311 q312 q313 q314 q315 q316 q317 q318 q319 q320 q321 q322 q323 q324 q325 q326 q327 q328 q329 q330 q331 q332 q333 : Value} :
    Code.wp Ybaz.prog tail9 (bodyPost Ybaz.prog Ybaz.f5 (BPost w)) ⟨#[q0, q1, q2, .slice pra pn prc, .slice mga mn mgc, .int .u8 ((snr : Nat) : Int), .slice bpa bn bpc, q7, q8, q9, q10, q11, q12, q13, q14, .int .i64 ((N : Nat) : Int), .slice (some ⟨ib, 0, none⟩) N N, .pointer (some ⟨vb, 0, none⟩), q18, q19, .int .i64 ((s : Nat) : Int), .slice (some ⟨mb, 0, none⟩) mm mc, .slice (some ⟨lb, 0, none⟩) N N, q23, q24, q25, q26, q27, q28, q29, q30, q31, q32, q33, q34, q35, q36, q37, q38, q39, q40, q41, q42, q43, q44, q45, q46, q47, q48, q49, q50, q51, q52, q53, q54, q55, q56, q57, q58, q59, q60, q61, q62, q63, q64, q65, q66, q67, q68, q69, q70, q71, q72, q73, q74, q75, q76, q77, q78, q79, q80, q81, q82, q83, q84, q85, q86, q87, q88, q89, q90, q91, q92, q93, q94, q95, q96, q97, q98, q99, q100, q101, q102, q103, q104, q105, q106, q107, q108, q109, q110, q111, q112, q113, q114, q115, q116, q117, q118, q119, q120, q121, q122, q123, q124, q125, q126, q127, q128, q129, q130, q131, q132, q133, q134, q135, q136, q137, q138, q139, q140, q141, q142, q143, q144, q145, q146, q147, q148, q149, q150, q151, q152, q153, q154, q155, q156, q157, q158, q159, q160, q161, q162, q163, q164, q165, q166, q167, q168, q169, q170, q171, q172, q173, q174, q175, q176, q177, q178, q179, q180, q181, q182, q183, q184, q185, q186, q187, q188, q189, q190, q191, q192, q193, q194, q195, q196, q197, q198, q199, q200, q201, q202, q203, q204, q205, q206, q207, q208, q209, q210, q211, q212, q213, q214, q215, q216, q217, q218, q219, q220, q221, q222, q223, q224, q225, q226, q227, q228, q229, q230, q231, q232, q233, q234, q235, q236, q237, q238, q239, q240, q241, q242, q243, q244, q245, q246, q247, q248, q249, q250, q251, q252, q253, q254, q255, q256, q257, q258, q259, q260, q261, q262, q263, q264, q265, q266, q267, q268, q269, q270, q271, q272, q273, q274, q275, q276, q277, q278, q279, q280, q281, q282, q283, q284, q285, q286, q287, q288, q289, q290, q291, q292, q293, q294, q295, q296, q297, q298, q299, q300, q301, q302, q303, q304, q305, q306, q307, q308, q309, q310, q311, q312, q313, q314, q315, q316, q317, q318, q319, q320, q321, q322, q323, q324, q325, q326, q327, q328, q329, q330, q331, q332, q333], []⟩ wr := by
  have hmem : ∀ i, i < mm → wr.cell? ⟨mb, i, none⟩ = some (.int .i64 ((ms i : Nat) : Int)) := fun i hi => by
    obtain ⟨g, cap, he, _, hc⟩ := own_cells hA.mown (by omega)
    simp only [Value.slice.injEq, Option.some.injEq, Addr.mk.injEq] at he
    obtain ⟨⟨rfl, _⟩, _⟩ := he
    exact hc i _ (by simp [intsL, hi])
  have hmk := @run_makeMap Ybaz.prog
  have hmf : ∀ (fn : Fn) (first cap : Array Value) (w : World), (Instr.makeFunc fn first cap).run Ybaz.prog w = .ok (.func fn first cap) w := fun _ _ _ _ => rfl
  obtain ⟨c30, hc30, hm30⟩ := made30 N (by omega)
  have HA := hide hA
  have Hmem := hide hmem
  have Hc30 := hide hc30
  have Hpr := hide hpr
  have Hmg := hide hmg
  have Hbp := hide hbp
  clear hA hmem hc30 hpr hmg hbp
  conv => arg 2; simp only [tail9, Ybaz.f5, Option.getD_some, sndSeq]
  go_upto_region 21 with (first
    | (guard_target = wpList _ _ _ (⟨_, Op.makeFunc _ _ _, _, _, _, _⟩ :: _) _ _; go_must (refine wpList_makeFunc rfl _ _ _ rfl (.func (.func 11) #[] #[.pointer (some ⟨vb, 0, none⟩)]) (by simp [Act.eval]; done) ?_; try simp only [Act.put, List.setIfInBounds_toArray, List.set_cons_zero, List.set_cons_succ]))
    | go_in)
  go_upto_region 22 with (go_at_call 12; refine (newnode_any (unhide HA).net hid hinj hcw hN hs hmm (fun i _ => hms i) (unhide Hmem)).mono ?_; rintro e w1 ⟨nb, T, C, ed, r, rfl, hNN'⟩; have hNN := hide hNN'; clear hNN')
  have hrange : w1.rangeAt nb 3 (tabL T) := by
    intro j v hj
    unfold tabL at hj
    rw [List.getElem?_map] at hj
    by_cases hjl : j < 256
    · rw [List.getElem?_range hjl] at hj
      simp only [Option.map_some, Option.some.injEq] at hj
      rw [(unhide hNN).node.row.cell (by omega), ndF_t hjl, hj]
    · rw [List.getElem?_eq_none (by simp; omega)] at hj
      cases hj
  go_upto_region 23 with (first
    | (guard_target = wpList _ _ _ (⟨_, Op.load 45 _, _, _, _, _⟩ :: _) _ _; go_must (refine wpList_load_mid rfl 45 _ rfl nb 3 rfl _ _ hrange Ybaz.underlying45 rfl (by rw [tabL_len]; kernel_rfl) ?_; try simp only [Act.put, List.setIfInBounds_toArray, List.set_cons_zero, List.set_cons_succ]))
    | (guard_target = wpList _ _ _ (⟨_, Op.build 47 _, _, _, _, _⟩ :: _) _ _; go_must (refine wpList_build_any rfl 47 _ rfl (#[(1, .int .i64 (-1)), (2, .agg (tabL T).toArray), (3, .map (some w1.heap.size)), (4, .int .i64 (-1)), (6, .map (some (w1.heap.size + 1))), (8, .map (some (w1.heap.size + 1 + 1)))]) (by simp only [List.map_toArray, List.map_cons, List.map_nil]; rfl) _ (build47 T _ _ _ _) ?_; try simp only [Act.put, List.setIfInBounds_toArray, List.set_cons_zero, List.set_cons_succ]))
    | go_in)
  obtain ⟨wB, hwB⟩ : ∃ wB, wB = (((w1.alloc (.map #[] 0)).alloc (.map #[] 0)).alloc (.map #[] 0)).alloc (.cells (jsArr T w1.heap.size (w1.heap.size + 1) (w1.heap.size + 1 + 1)) 47) := ⟨_, rfl⟩
  have h4 : W4 w1 wB (jsArr T w1.heap.size (w1.heap.size + 1) (w1.heap.size + 1 + 1)) := by rw [hwB]; exact W4.of _ _ (js_size _ _ _ _)
  rw [← hwB, show w1.heap.size + 1 + 1 + 1 = w1.heap.size + 3 from rfl]
  have szB := h4.size
  have H4 := hide h4
  obtain ⟨v1, g1⟩ : ∃ v1, wB.cell? ⟨w1.heap.size + 3, 1, none⟩ = some v1 := ⟨_, h4.row.cell (by omega)⟩
  obtain ⟨v2, g2⟩ : ∃ v2, wB.cell? ⟨w1.heap.size + 3, 2, none⟩ = some v2 := ⟨_, h4.row.cell (by omega)⟩
  have z1 := h4.row.frozen 1
  have z2 := h4.row.frozen 2
  clear h4 hwB hrange
  go_upto_region 26 with fail
  obtain ⟨wA, hwA⟩ : ∃ wA, wA = ((((wB.setCell ⟨w1.heap.size + 3, 1, none⟩ (.map (some (w1.heap.size + 4)))).setCell ⟨w1.heap.size + 3, 2, none⟩ (.map (some (w1.heap.size + 4 + 1)))).alloc (.map #[] 0)).alloc (.map #[] 0)).alloc (.cells c30 4) := ⟨_, rfl⟩
  have h7 : W7 w1 wA (jsArr T w1.heap.size (w1.heap.size + 1) (w1.heap.size + 1 + 1)) N := by rw [hwA]; exact W7.of (unhide H4) (unhide Hc30)
  rw [← hwA, show w1.heap.size + 4 + 1 + 1 = w1.heap.size + 6 from rfl]
  have hBN := hide (bn_start (unhide HA) hid hinj hcw hN hs hmm hms (unhide hNN) h7)
  have hLP := hide (lp_start (s := s) (id := id) (cw := cw) (pv := pv) h7)
  clear hwA h7 g1 g2 z1 z2 szB hmk hmf
  go_cut [30] (fun s30 wx => s30 = .int .i64 0 ∧ wx = wA)
  case first =>
    go_wp2_with fail
    go_meet
    exact ⟨rfl, rfl⟩
  case rest =>
    obtain ⟨rfl, rfl⟩ := hcut
    exact (by assumption : ∀ (a : Act) (w0 : World), Code.wp Ybaz.prog tail16 (bodyPost Ybaz.prog Ybaz.f5 (BPost w)) a w0 → _) _ _ (b_t16 (X := cx0 ib cb vb N s nb w1.heap.size id cw cI T C r) (unhide hBN) (unhide hLP) rfl hpn (unhide Hpr) hpv hmn hsnr (unhide Hmg) hmv hbn (unhide Hbp) hxn hyc)


end Go.Proofs.YbulkbtkoGreatFmt

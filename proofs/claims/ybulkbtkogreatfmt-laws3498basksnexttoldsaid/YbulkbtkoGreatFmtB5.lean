import Derived.Test.YbulkbtkoGreatFmtB9
namespace Go.Proofs.YbulkbtkoGreatFmt
open Go.RowKit
set_option linter.unusedVariables false
set_option linter.unusedSimpArgs false

theorem mem_step {ms : Nat → Nat} {k : Nat} : setB (fun n => decide (n ∈ (List.range k).map ms)) (ms k) = fun n => decide (n ∈ (List.range (k + 1)).map ms) := by
  funext n
  simp only [setB, List.range_succ, List.map_append, List.mem_append, List.map_cons, List.map_nil, List.mem_singleton]
  by_cases c : n = ms k
  · simp [c]
  · simp [c]
/-- The members so far. -/
structure LM (w0 wq : World) (g cap lb N : Nat) (ms : Nat → Nat) (k : Nat) : Prop where
  own : wq.ownsRow 0 3 1 (.slice (some ⟨g, 0, none⟩) k cap) k (intsL ((List.range k).map ms))
  inl : wq.rowIs lb 4 N (fun i => .bool (decide (i ∈ (List.range k).map ms)))
  bel : Below w0.heap.size w0 wq
  ge : w0.heap.size ≤ g ∧ w0.heap.size ≤ lb
  ne : g ≠ lb
theorem LM.start (w0 : World) (c31 c30 : Array Value) (N mm : Nat) (ms : Nat → Nat) (hmm : mm ≤ 300) (h31 : c31.size = mm) (h30 : ∀ w : World, (w.alloc (.cells c30 4)).rowIs w.heap.size 4 N (fun _ => .bool false)) :
    LM w0 ((w0.alloc (.cells c31 3)).alloc (.cells c30 4)) w0.heap.size mm (w0.heap.size + 1) N ms 0 := by
  have e : (w0.alloc (.cells c31 3)).heap.size = w0.heap.size + 1 := by simp
  refine ⟨⟨rfl, .inr ⟨w0.heap.size, mm, c31, rfl, Nat.zero_le _, ?_, Nat.zero_le _, by have : maxLen = 9223372036854775807 := rfl; omega, by omega, by simp [intsL]⟩⟩, ?_, ((Below.refl _ _).alloc (Nat.le_refl _) _).alloc (by simp) _, ⟨Nat.le_refl _, by omega⟩, by omega⟩
  · rw [Below.heap_alloc _ _ _ (by simp)]
    exact heap_new _ _
  · have h := h30 (w0.alloc (.cells c31 3))
    rw [e] at h
    exact h.congr fun i hi => by simp
theorem LM.step {w0 wq w3 : World} {g cap lb N : Nat} {ms : Nat → Nat} {k g' cap' : Nat} {o : Obj} (h : LM w0 wq g cap lb N ms k) (hF : Fr (wq.alloc o) w3 (ob (.slice (some ⟨g, 0, none⟩) k cap))) (hg : g' ∈ ob (.slice (some ⟨g, 0, none⟩) k cap) ∨ (wq.alloc o).heap.size ≤ g')
    (hown : w3.ownsRow 0 3 1 (.slice (some ⟨g', 0, none⟩) (k + 1) cap') (k + 1) (intsL ((List.range k).map ms) ++ [.int .i64 ((ms k : Nat) : Int)])) : LM w0 (w3.setCell ⟨lb, ms k, none⟩ (.bool true)) g' cap' lb N ms (k + 1) := by
  have hob : ob (.slice (some ⟨g, 0, none⟩) k cap) = [g] := rfl
  rw [hob] at hF hg
  have hb : Below w0.heap.size w0 (wq.alloc o) := h.bel.alloc h.bel.size _
  have hlb := h.inl.lt
  have hsz : (wq.alloc o).heap.size = wq.heap.size + 1 := by simp
  have hg' : w0.heap.size ≤ g' ∧ g' ≠ lb := by
    rcases hg with h1 | h1
    · simp at h1
      subst h1
      exact ⟨h.ge.1, h.ne⟩
    · have := hb.size
      exact ⟨by omega, by omega⟩
  have r1 : w3.rowIs lb 4 N (fun i => .bool (decide (i ∈ (List.range k).map ms))) := (h.inl.of_block (Below.heap_alloc _ _ _ hlb)).of_block (hF.block _ (by omega) (by simp; exact Ne.symm h.ne))
  refine ⟨?_, ?_, (hb.trans (hF.below hb.size (by simp; exact h.ge.1))).setCell (p := ⟨lb, ms k, none⟩) h.ge.2 _, ⟨hg'.1, h.ge.2⟩, hg'.2⟩
  · have e : intsL ((List.range (k + 1)).map ms) = intsL ((List.range k).map ms) ++ [.int .i64 ((ms k : Nat) : Int)] := by
      rw [List.range_succ, List.map_append]
      simp [intsL]
    rw [e]
    refine own_of_block hown fun x hx => Below.heap_setCell _ _ _ _ ?_
    have : x = g' := by simpa [ob, Value.ownBlock] using hx
    show x ≠ lb
    rw [this]
    exact hg'.2
  · have h2 := bool_set (j := ms k) r1
    rw [mem_step] at h2
    exact h2

set_option maxHeartbeats 4000000 in
set_option maxRecDepth 100000 in
theorem b_t5 {w wr : World} {ib cb vb N slf mm mmc : Nat} {id cw mx : Nat → Nat} {cI : Nat → Int} {pn prc mn mgc snr bn bpc : Nat} {pv mv xn : Nat → Nat} {yc : Nat → Int} {mma pra mga bpa : Option Addr} (hNet : Net wr ib cb vb N id cw) (hbel : Below w.heap.size w wr) (hlow : ∀ g ∈ [ib, cb, vb], w.heap.size ≤ g) (hnd : [ib, cb, vb].Nodup) (hid : ∀ i, id i < 18446744073709551616)
    (hinj : ∀ i j, i < N → j < N → id i = id j → i = j) (hcw : ∀ i, Reads (cw i) (cI i)) (hN : N ≤ 300) (hN0 : 0 < N) (hslf : slf < 256) (hmm : mm ≤ 300) (hma : U8 w mma mm mx) (hmx : ∀ i, mx i < 256) (hpn : pn ≤ 300) (hpr : U8 w pra pn pv) (hpv : ∀ i, pv i < 256)
    (hmn : mn ≤ 300) (hsnr : snr < 256) (hmg : U8 w mga mn mv) (hmv : ∀ i, mv i < 256) (hbn : bn ≤ 300) (hbp : Bps w bpa bn xn yc) (hxn : ∀ i, xn i < 256) (hyc : ∀ i, -128 ≤ yc i ∧ yc i ≤ 127) {q0 q7 q8 q9 q10 q11 q12 q13 q14 q18 q19 q20 q21 q22 q23 q24 q25 q26 q27 q28 q29 q30 q31 q32 q33 q34 q35 q36 q37 q38 q39 q40 q41 q42 q43 q44 q45 q46 q47 q48 q49 q50 q51 q52 q53 q54 q55 q56 q57 q58 q59 q60 q61 q62 q63 q64 q65 q66 q67 q68 q69 q70 q71 q72 q73 q74 q75 q76 q77 q78 q79 q80 q81 q82 q83 q84 q85 q86 q87 q88 q89 q90 q91 q92 q93 q94 q95 q96 q97 q98 q99 q100 q101 q102 q103 q104 q105 q106 q107 q108 q109 q110 q111 q112 q113 q114 q115 q116 q117 q118 q119 q120 q121 q122 q123 q124 q125 q126 q127 q128 q129 q130 q131 q132 q133 q134 q135 q136 q137 q138 q139 q140 q141 q142 q143 q144 q145 q146 q147 q148 q149 q150 q151 q152 q153 q154 q155 q156 q157 q158 q159 q160 q161 q162 q163 q164 q165 q166 q167 q168 q169 q170 q171 q172 q173 q174 q175 q176 q177 q178 q179 q180 q181 q182 q183 q184 q185 q186 q187 q188 q189 q190 q191 q192 q193 q194 q195 q196 q197 q198 q199 q200 q201 q202 q203 q204 q205 q206 q207 q208 q209 q210 q211 q212 q213 q214 q215 q216 q217 q218 q219 q220 q221 q222 q223 q224 q225 q226 q227 q228 q229 q230 q231 q232 q233 q234 q235 q236 q237 q238 q239 q240 q241 q242 q243 q244 q245 q246 q247 q248 q249 q250 q251 q252 q253 q254 q255 q256 q257 q258 q259 q260 q261 q262 q263 q264 q265 q266 q267 q268 q269 q270 q271 q272 q273 q274 q275 q276 q277 q278 q279 q280 q281 q282 q283 q284 q285 q286 q287 q288 q289 q290 q291 q292 q293 q294 q295 q296 q297 q298 q299 q300 q301 q302 q303 q304 q305 q306 q307 q308 q309 q310 q311 q312 q313 q314 q315 q316 q317 q318 q319 q320 q321 q322 q323 q324 q325 q326 q327 q328 q329 q330 q331 q332 q333 : Value} :
    Code.wp Ybaz.prog tail5 (bodyPost Ybaz.prog Ybaz.f5 (BPost w)) ⟨#[q0, .int .u8 ((slf : Nat) : Int), .slice mma mm mmc, .slice pra pn prc, .slice mga mn mgc, .int .u8 ((snr : Nat) : Int), .slice bpa bn bpc, q7, q8, q9, q10, q11, q12, q13, q14, .int .i64 ((N : Nat) : Int), .slice (some ⟨ib, 0, none⟩) N N, .pointer (some ⟨vb, 0, none⟩), q18, q19, q20, q21, q22, q23, q24, q25, q26, q27, q28, q29, q30, q31, q32, q33, q34, q35, q36, q37, q38, q39, q40, q41, q42, q43, q44, q45, q46, q47, q48, q49, q50, q51, q52, q53, q54, q55, q56, q57, q58, q59, q60, q61, q62, q63, q64, q65, q66, q67, q68, q69, q70, q71, q72, q73, q74, q75, q76, q77, q78, q79, q80, q81, q82, q83, q84, q85, q86, q87, q88, q89, q90, q91, q92, q93, q94, q95, q96, q97, q98, q99, q100, q101, q102, q103, q104, q105, q106, q107, q108, q109, q110, q111, q112, q113, q114, q115, q116, q117, q118, q119, q120, q121, q122, q123, q124, q125, q126, q127, q128, q129, q130, q131, q132, q133, q134, q135, q136, q137, q138, q139, q140, q141, q142, q143, q144, q145, q146, q147, q148, q149, q150, q151, q152, q153, q154, q155, q156, q157, q158, q159, q160, q161, q162, q163, q164, q165, q166, q167, q168, q169, q170, q171, q172, q173, q174, q175, q176, q177, q178, q179, q180, q181, q182, q183, q184, q185, q186, q187, q188, q189, q190, q191, q192, q193, q194, q195, q196, q197, q198, q199, q200, q201, q202, q203, q204, q205, q206, q207, q208, q209, q210, q211, q212, q213, q214, q215, q216, q217, q218, q219, q220, q221, q222, q223, q224, q225, q226, q227, q228, q229, q230, q231, q232, q233, q234, q235, q236, q237, q238, q239, q240, q241, q242, q243, q244, q245, q246, q247, q248, q249, q250, q251, q252, q253, q254, q255, q256, q257, q258, q259, q260, q261, q262, q263, q264, q265, q266, q267, q268, q269, q270, q271, q272, q273, q274, q275, q276, q277, q278, q279, q280, q281, q282, q283, q284, q285, q286, q287, q288, q289, q290, q291, q292, q293, q294, q295, q296, q297, q298, q299, q300, q301, q302, q303, q304, q305, q306, q307, q308, q309, q310, q311, q312, q313, q314, q315, q316, q317, q318, q319, q320, q321, q322, q323, q324, q325, q326, q327, q328, q329, q330, q331, q332, q333], []⟩ wr := by
  obtain ⟨c30, hc30, hm30⟩ := made30 N (by omega)
  obtain ⟨c31, hc31, hm31⟩ := made31 mm (by omega)
  have hst := hide (LM.start wr c31 c30 N mm (fun i => mx i % N) hmm hc31 hc30)
  have nz : ¬ N = 0 := by omega
  have HNet := hide hNet
  have Hbel := hide hbel
  have Hma := hide hma
  have Hpr := hide hpr
  have Hmg := hide hmg
  have Hbp := hide hbp
  clear hNet hbel hma hpr hmg hbp hc30 hc31
  conv => arg 2; simp only [tail5, Ybaz.f5, Option.getD_some, sndSeq]
  dsimp only
  go_upto_region 13 with fail
  have e1 : ((slf : Nat) : Int) % ((N : Nat) : Int) = ((slf % N : Nat) : Int) := by simp
  rw [e1]
  obtain ⟨s, hs⟩ : ∃ s, slf % N = s := ⟨_, rfl⟩
  have hsN : s < N := by rw [← hs]; exact Nat.mod_lt _ hN0
  rw [hs]
  obtain ⟨wA, hwA⟩ : ∃ wA, wA = (wr.alloc (.cells c31 3)).alloc (.cells c30 4) := ⟨_, rfl⟩
  rw [← hwA] at hst ⊢
  clear hwA e1 hs hm30 hm31
  go_upto_block 2 with fail
  go_cut [21] (fun s21 wq => ∃ g cap, s21 = .slice (some ⟨g, 0, none⟩) mm cap ∧ Hid (LM wr wq g cap (wr.heap.size + 1) N (fun i => mx i % N) mm))
  case first =>
    go_wp2_with fail
    go_loopw [94, 21] (fun iv mv wq => ∃ k : Nat, k ≤ mm ∧ iv = .int .i64 (k : Int) ∧ ∃ g cap, mv = .slice (some ⟨g, 0, none⟩) k cap ∧ Hid (LM wr wq g cap (wr.heap.size + 1) N (fun i => mx i % N) k)) (fun iv _ _ => mm - (intOf iv).toNat)
    case atStart => exact ⟨0, by omega, rfl, _, _, rfl, hst⟩
    case round =>
      obtain ⟨k, hk, rfl, g, cap, rfl, hL⟩ := hrel
      by_cases hkl : k < mm
      · rename World => wq
        obtain ⟨b, o, rfl, p0⟩ := (unhide Hma).at ((unhide Hbel).trans ((unhide hL).bel.mono (unhide Hbel).size)) hkl
        have k0 : (0 : Int) ≤ (k : Int) := by omega
        have k1 : (k : Int) < (mm : Int) := by omega
        have hm1 := hmx k
        have hjN : mx k % N < N := Nat.mod_lt _ hN0
        go_upto_region 17 with fail
        have e1 : ((mx k : Nat) : Int) % ((N : Nat) : Int) = ((mx k % N : Nat) : Int) := by simp
        rw [e1]
        obtain ⟨j, hj⟩ : ∃ j, mx k % N = j := ⟨_, rfl⟩
        rw [hj] at hjN ⊢
        have Hj := hide hj
        clear hj e1 p0
        have j0 : (0 : Int) ≤ ((j : Nat) : Int) := by omega
        have j1 : ((j : Nat) : Int) < ((N : Nat) : Int) := by omega
        go_upto_region 18 with (guard_target = wpList _ _ _ (⟨_, Op.call { callee := Callee.builtin Builtin.append, args := _, argTypes := _ }, _, _, _, _⟩ :: _) _ _; go_must (refine wpList_app1 rfl _ _ rfl (.slice (some ⟨g, 0, none⟩) k cap) _ _ rfl (own_fr (unhide hL).own ((Fr.refl _ []).alloc _) (by simp)) _ rfl (.int .i64 ((j : Nat) : Int)) (by go_simp) rfl (by omega) ?_; intro g3 cap3 w3 hown3' hF3' hg3'; have hown3 := hide hown3'; have hF3 := hide hF3'; have hg3 := hide hg3'; clear hown3' hF3' hg3'; try simp only [Act.put, List.setIfInBounds_toArray, List.set_cons_zero, List.set_cons_succ]))
        have hr3 : w3.rowIs (wr.heap.size + 1) 4 N (fun i => .bool (decide (i ∈ (List.range k).map (fun i => mx i % N)))) := ((unhide hL).inl.of_block (Below.heap_alloc _ _ _ (unhide hL).inl.lt)).of_block ((unhide hF3).block _ (by have := (unhide hL).inl.lt; simp; omega) (fun hm => (unhide hL).ne (by have h9 : wr.heap.size + 1 = g := (by simpa [ob, Value.ownBlock] using hm); exact h9.symm)))
        have r1 := hr3.cell hjN
        have z1 := hr3.frozen j
        clear hr3
        go_wp2_with fail
        refine ⟨⟨k + 1, by omega, rfl, g3, cap3, rfl, ?_⟩, by simp [intOf]; omega⟩
        have h := (unhide hL).step (unhide hF3) (unhide hg3) (by show World.ownsRow _ _ _ _ _ _ (_ ++ [.int .i64 ((mx k % N : Nat) : Int)]); rw [unhide Hj]; exact unhide hown3)
        rw [unhide Hj] at h
        exact h
      · obtain rfl : k = mm := by omega
        go_wp2_with fail
        go_meet
        exact ⟨g, cap, rfl, hL⟩
  case rest =>
    obtain ⟨g, cap, rfl, hL⟩ := hcut
    rename World => wq
    have hBA : BA w wq ib cb vb g (wr.heap.size + 1) N mm cap id cw (fun i => mx i % N) := by
      have hb := (unhide hL).bel
      have l1 := (unhide HNet).ids.lt
      have l2 := (unhide HNet).cost.lt
      have l3 : vb < wr.heap.size := World.block_lt_of_cell? _ _ (unhide HNet).var
      have hsz := (unhide Hbel).size
      refine ⟨(unhide HNet).of_blocks (hb.block _ l1) (hb.block _ l2) (hb.block _ l3), (unhide hL).own, (unhide hL).inl, (unhide Hbel).trans (hb.mono hsz), fun x hx => ?_, ?_⟩
      · simp only [List.mem_cons, List.not_mem_nil, or_false] at hx
        rcases hx with h1 | h1 | h1 | h1
        · exact hlow x (by simp [h1])
        · exact hlow x (by simp [h1])
        · exact hlow x (by simp [h1])
        · omega
      · simp only [List.mem_cons, not_or, List.not_mem_nil, not_false_eq_true, and_true, List.nodup_cons] at hnd ⊢
        grind
    exact (by assumption : ∀ (a : Act) (w0 : World), Code.wp Ybaz.prog tail9 (bodyPost Ybaz.prog Ybaz.f5 (BPost w)) a w0 → _) _ _ (b_t9 hBA hid hinj hcw hN hsN hmm (fun i => Nat.mod_lt _ hN0) hpn (unhide Hpr) hpv hmn hsnr (unhide Hmg) hmv hbn (unhide Hbp) hxn hyc)


end Go.Proofs.YbulkbtkoGreatFmt

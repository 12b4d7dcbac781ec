import Derived.Test.YbulkbtkoGreatFmtB21
namespace Go.Proofs.YbulkbtkoGreatFmt
open Go.RowKit
set_option linter.unusedVariables false
set_option linter.unusedSimpArgs false

/-- The message's nodes: the sender, then what it names. -/
def nfOf (N snr : Nat) (mv : Nat → Nat) : Nat → Nat
  | 0 => snr % N
  | i + 1 => mv i % N
theorem nfOf_lt {N snr : Nat} {mv : Nat → Nat} (hN : 0 < N) : ∀ i, nfOf N snr mv i < N
  | 0 => Nat.mod_lt _ hN
  | i + 1 => Nat.mod_lt _ hN
structure LN (wr wq : World) (nv : Value) (nf : Nat → Nat) (k : Nat) : Prop where
  own : wq.ownsRow 0 3 1 nv (k + 1) (intsL ((List.range (k + 1)).map nf))
  bel : Below wr.heap.size wr wq
  fz : ∀ g ∈ ob nv, wr.heap.size ≤ g
theorem LN.start (wr : World) (nf : Nat → Nat) : LN wr (wr.alloc (.cells #[.int .i64 ((nf 0 : Nat) : Int)] 3)) (.slice (some ⟨wr.heap.size, 0, none⟩) 1 1) nf 0 := by
  refine ⟨⟨rfl, .inr ⟨wr.heap.size, 1, #[.int .i64 ((nf 0 : Nat) : Int)], rfl, Nat.zero_le _, heap_new _ _, Nat.le_refl _, by decide, rfl, rfl⟩⟩, (Below.refl _ _).alloc (Nat.le_refl _) _, fun g hg => ?_⟩
  have : g = wr.heap.size := by simpa [ob, Value.ownBlock] using hg
  omega
theorem LN.step {wr wq w3 : World} {nv : Value} {nf : Nat → Nat} {k g cap : Nat} {o : Obj} (h : LN wr wq nv nf k) (hF : Fr (wq.alloc o) w3 (ob nv)) (hg : g ∈ ob nv ∨ (wq.alloc o).heap.size ≤ g)
    (hown : w3.ownsRow 0 3 1 (.slice (some ⟨g, 0, none⟩) (k + 1 + 1) cap) (k + 1 + 1) (intsL ((List.range (k + 1)).map nf) ++ [.int .i64 ((nf (k + 1) : Nat) : Int)])) : LN wr w3 (.slice (some ⟨g, 0, none⟩) (k + 1 + 1) cap) nf (k + 1) := by
  have hb : Below wr.heap.size wr (wq.alloc o) := h.bel.alloc h.bel.size _
  refine ⟨?_, hb.trans (hF.below hb.size h.fz), fun x hx => ?_⟩
  · have e : intsL ((List.range (k + 1 + 1)).map nf) = intsL ((List.range (k + 1)).map nf) ++ [.int .i64 ((nf (k + 1) : Nat) : Int)] := by
      rw [List.range_succ (n := k + 1), List.map_append]
      simp [intsL]
    rw [e]
    exact hown
  · have : x = g := by simpa [ob, Value.ownBlock] using hx
    subst this
    rcases hg with h1 | h1
    · exact h.fz x h1
    · have := hb.size; omega

set_option maxHeartbeats 4000000 in
set_option maxRecDepth 100000 in
theorem b_t17 {w wr : World} {X : Cx} {ab m0 m1 zb sb lb : Nat} {seen0 : Nat → Bool} {l : List Nat} {ed : Int} {rr : Nat → Value} {mn mgc snr bn bpc : Nat} {mv xn : Nat → Nat} {yc : Nat → Int} {mga bpa : Option Addr} (hB : BN w wr X ab m0 m1 zb sb lb seen0 l ed (rr)) (hX : X.r = putF rr 518 (.pointer (some ⟨X.jb, 0, none⟩))) (hsnd : X.snd = snr % X.N)
    (hmn : mn ≤ 300) (hsnr : snr < 256) (hmg : U8 w mga mn mv) (hmv : ∀ i, mv i < 256) (hbn : bn ≤ 300) (hbp : Bps w bpa bn xn yc) (hxn : ∀ i, xn i < 256) (hyc : ∀ i, -128 ≤ yc i ∧ yc i ≤ 127) {q0 q1 q2 q3 q7 q8 q9 q10 q11 q12 q13 q14 q18 q19 q21 q23 q24 q25 q26 q31 q32 q33 q34 q35 q36 q37 q38 q39 q40 q41 q42 q43 q44 q45 q46 q47 q48 q49 q50 q51 q52 q53 q54 q55 q56 q57 q58 q59 q60 q61 q62 q63 q64 q65 q66 q67 q68 q69 q70 q71 q72 q73 q74 q75 q76 q77 q78 q79 q80 q81 q82 q83 q84 q85 q86 q87 q88 q89 q90 q91 q92 q93 q94 q95 q96 q97 q98 q99 q100 q101 q102 q103 q104 q105 q106 q107 q108 q109 q110 q111 q112 q113 q114 q115 q116 q117 q118 q119 q120 q121 q122 q123 q124 q125 q126 q127 q128 q129 q130 q131 q132 q133 q134 q135 q136 q137 q138 q139 q140 q141 q142 q143 q144 q145 q146 q147 q148 q149 q150 q151 q152 q153 q154 q155 q156 q157 q158 q159 q160 q161 q162 q163 q164 q165 q166 q167 q168 q169 q170 q171 q172 q173 q174 q175 q176 q177 q178 q179 q180 q181 q182 q183 q184 q185 q186 q187 q188 q189 q190 q191 q192 q193 q194 q195 q196 q197 q198 q199 q200 q201 q202 q203 q204 q205 q206 q207 q208 q209 q210 q211 q212 q213 q214 q215 q216 q217 q218 q219 q220 q221 q222 q223 q224 q225 q226 q227 q228 q229 q230 q231 q232 q233 q234 q235 q236 q237 q238 q239 q240 q241 q242 q243 q244 q245 q246 q247 q248 q249 q250 q251 q252 q253 q254 q255 q256 q257 q258 q259 q260 q261 q262 q263 q264 q265 q266 q267 q268 q269 q270 q271 q272 q273 q274 q275 q276 q277 q278 q279 q280 q281 q282 q283 q284 q285 q286 q287 q288 q289 q290 q291 q292 q293 q294 q295 q296 q297 q298 q299 q300 q301 q302 q303 q304 q305 q306 q307 q308 q309 q310 q311 q312 q313 q314 q315 q316 q317 q318 q319 q320 q321 q322 q323 q324 q325 q326 q327 q328 q329 q330 q331 q332 q333 : Value} :
    Code.wp Ybaz.prog tail17 (bodyPost Ybaz.prog Ybaz.f5 (BPost w)) ⟨#[q0, q1, q2, q3, .slice mga mn mgc, .int .u8 ((snr : Nat) : Int), .slice bpa bn bpc, q7, q8, q9, q10, q11, q12, q13, q14, .int .i64 ((X.N : Nat) : Int), .slice (some ⟨X.ib, 0, none⟩) X.N X.N, .pointer (some ⟨X.vb, 0, none⟩), q18, q19, .int .i64 ((X.s : Nat) : Int), q21, .slice (some ⟨lb, 0, none⟩) X.N X.N, q23, q24, q25, q26, .pointer (some ⟨X.nb, 0, none⟩), .pointer (some ⟨X.jb, 0, none⟩), .slice (some ⟨sb, 0, none⟩) X.N X.N, .int .i64 ((X.l0.length : Nat) : Int), q31, q32, q33, q34, q35, q36, q37, q38, q39, q40, q41, q42, q43, q44, q45, q46, q47, q48, q49, q50, q51, q52, q53, q54, q55, q56, q57, q58, q59, q60, q61, q62, q63, q64, q65, q66, q67, q68, q69, q70, q71, q72, q73, q74, q75, q76, q77, q78, q79, q80, q81, q82, q83, q84, q85, q86, q87, q88, q89, q90, q91, q92, q93, q94, q95, q96, q97, q98, q99, q100, q101, q102, q103, q104, q105, q106, q107, q108, q109, q110, q111, q112, q113, q114, q115, q116, q117, q118, q119, q120, q121, q122, q123, q124, q125, q126, q127, q128, q129, q130, q131, q132, q133, q134, q135, q136, q137, q138, q139, q140, q141, q142, q143, q144, q145, q146, q147, q148, q149, q150, q151, q152, q153, q154, q155, q156, q157, q158, q159, q160, q161, q162, q163, q164, q165, q166, q167, q168, q169, q170, q171, q172, q173, q174, q175, q176, q177, q178, q179, q180, q181, q182, q183, q184, q185, q186, q187, q188, q189, q190, q191, q192, q193, q194, q195, q196, q197, q198, q199, q200, q201, q202, q203, q204, q205, q206, q207, q208, q209, q210, q211, q212, q213, q214, q215, q216, q217, q218, q219, q220, q221, q222, q223, q224, q225, q226, q227, q228, q229, q230, q231, q232, q233, q234, q235, q236, q237, q238, q239, q240, q241, q242, q243, q244, q245, q246, q247, q248, q249, q250, q251, q252, q253, q254, q255, q256, q257, q258, q259, q260, q261, q262, q263, q264, q265, q266, q267, q268, q269, q270, q271, q272, q273, q274, q275, q276, q277, q278, q279, q280, q281, q282, q283, q284, q285, q286, q287, q288, q289, q290, q291, q292, q293, q294, q295, q296, q297, q298, q299, q300, q301, q302, q303, q304, q305, q306, q307, q308, q309, q310, q311, q312, q313, q314, q315, q316, q317, q318, q319, q320, q321, q322, q323, q324, q325, q326, q327, q328, q329, q330, q331, q332, q333], []⟩ wr := by
  have hN := hB.hN
  have hN0 : 0 < X.N := by have := hB.hs; omega
  have r518 : X.r 518 = .pointer (some ⟨X.jb, 0, none⟩) := by rw [hX]; simp [putF]
  have c518 : (wr.cell? ⟨X.nb, 518, none⟩).isSome = true := by rw [hB.node.row.cell (by omega)]; rfl
  have z518 := hB.node.row.frozen 518
  obtain ⟨u518, c518⟩ := Option.isSome_iff_exists.1 c518
  have hJ := hide (hB.join hX)
  have Hr := hide r518
  have Hmg := hide hmg
  have Hbp := hide hbp
  have Hsnd := hide hsnd
  have nz : ¬ X.N = 0 := by omega
  have hwr : IntKind.i64.wrap ((snr : Nat) : Int) = ((snr : Nat) : Int) := by rw [IntKind.wrap_i64]; omega
  have htm : Int.tmod ((snr : Nat) : Int) ((X.N : Nat) : Int) = ((snr % X.N : Nat) : Int) := (Int.ofNat_tmod _ _).symm
  clear hB hX r518 hmg hbp hsnd
  conv => arg 2; simp only [tail17, Ybaz.f5, Option.getD_some, sndSeq]
  go_upto_region 40 with fail
  have e1 : ((snr : Nat) : Int) % ((X.N : Nat) : Int) = ((X.snd : Nat) : Int) := by rw [unhide Hsnd]; simp
  rw [e1]
  obtain ⟨wJ, hwJ⟩ : ∃ wJ, wJ = wr.setCell ⟨X.nb, 518, none⟩ (.pointer (some ⟨X.jb, 0, none⟩)) := ⟨_, rfl⟩
  have szJ : wr.heap.size = wJ.heap.size := by rw [hwJ]; simp
  rw [← hwJ] at hJ ⊢
  rw [szJ]
  clear hwJ szJ c518 z518 e1
  have hst : Hid (LN wJ (wJ.alloc (.cells #[.int .i64 ((X.snd : Nat) : Int)] 3)) (.slice (some ⟨wJ.heap.size, 0, none⟩) 1 1) (nfOf X.N snr mv) 0) := by
    have h := LN.start wJ (nfOf X.N snr mv)
    rw [show nfOf X.N snr mv 0 = X.snd from (unhide Hsnd).symm] at h
    exact h
  go_upto_block 6 with fail
  go_cut [35] (fun s35 wq => Hid (LN wJ wq s35 (nfOf X.N snr mv) mn))
  case first =>
    go_wp2_with fail
    go_loopw [202, 35] (fun iv nv wq => ∃ k : Nat, k ≤ mn ∧ iv = .int .i64 (k : Int) ∧ Hid (LN wJ wq nv (nfOf X.N snr mv) k)) (fun iv _ _ => mn - (intOf iv).toNat)
    case atStart => exact ⟨0, by omega, rfl, hst⟩
    case round =>
      obtain ⟨k, hk, rfl, hL⟩ := hrel
      by_cases hkl : k < mn
      · rename World => wq
        obtain ⟨b, o, rfl, p0⟩ := (unhide Hmg).at ((unhide hJ).bel.trans ((unhide hL).bel.mono (unhide hJ).bel.size)) hkl
        have k0 : (0 : Int) ≤ (k : Int) := by omega
        have k1 : (k : Int) < (mn : Int) := by omega
        have hm1 := hmv k
        go_wp2_with (guard_target = wpList _ _ _ (⟨_, Op.call { callee := Callee.builtin Builtin.append, args := _, argTypes := _ }, _, _, _, _⟩ :: _) _ _; go_must (refine wpList_app1 rfl _ _ rfl _ _ _ rfl (own_fr (unhide hL).own ((Fr.refl _ []).alloc _) (by simp)) _ rfl (.int .i64 (((mv k : Nat) : Int) % ((X.N : Nat) : Int))) (by go_simp) rfl (by omega) ?_; intro g cap w3 hown3' hF3' hg3'; have hown3 := hide hown3'; have hF3 := hide hF3'; have hg3 := hide hg3'; clear hown3' hF3' hg3'; try simp only [Act.put, List.setIfInBounds_toArray, List.set_cons_zero, List.set_cons_succ]))
        refine ⟨⟨k + 1, by omega, rfl, (unhide hL).step (unhide hF3) (unhide hg3) ?_⟩, by simp [intOf]; omega⟩
        have h := unhide hown3
        have e2 : ((mv k : Nat) : Int) % ((X.N : Nat) : Int) = ((nfOf X.N snr mv (k + 1) : Nat) : Int) := by simp [nfOf]
        rw [e2] at h
        exact h
      · obtain rfl : k = mn := by omega
        go_wp2_with fail
        go_meet
        exact hL
  case rest =>
    have hL := unhide hcut
    obtain ⟨na, ncap, rfl, hsh⟩ := own_shape hL.own
    rcases hsh with h0 | ⟨nsb, rfl, hgo⟩
    · omega
    · have hge := hL.fz nsb hgo
      exact (by assumption : ∀ (a : Act) (w0 : World), Code.wp Ybaz.prog tail21 (bodyPost Ybaz.prog Ybaz.f5 (BPost w)) a w0 → _) _ _ (b_t21 ((unhide hJ).later hL.bel) (unhide Hr) hL.own (by omega) (by omega) (nfOf_lt hN0) (unhide Hsnd).symm ⟨fun hm => by have := (unhide hJ).lt nsb hm; omega, fun hm => by have := own_lt (unhide hJ).own nsb hm; omega⟩ hbn (unhide Hbp) hxn hyc)


end Go.Proofs.YbulkbtkoGreatFmt

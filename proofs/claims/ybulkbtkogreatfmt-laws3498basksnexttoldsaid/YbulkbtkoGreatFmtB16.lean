import Derived.Test.YbulkbtkoGreatFmtBj
namespace Go.Proofs.YbulkbtkoGreatFmt
open Go.RowKit
set_option linter.unusedVariables false
set_option linter.unusedSimpArgs false

noncomputable def tail16 : Code := sndSeq (sndSeq (sndSeq (sndSeq (sndSeq (sndSeq (sndSeq (sndSeq (sndSeq (sndSeq (sndSeq (sndSeq (sndSeq (sndSeq (sndSeq (sndSeq (Ybaz.f5.body.getD .skip))))))))))))))))

theorem BN.pre {w wA wq : World} {X : Cx} {ab m0 m1 zb sb lb : Nat} {l : List Nat} {ed : Int} {rr jf0 : Nat → Value} {p : PS} {v : Value} {k snd : Nat} (h : BN w wA X ab m0 m1 zb sb lb (fun _ => false) l ed rr) (hL : LP wA wq X.N X.s X.id X.cw X.jb X.hb sb jf0 p v k) (hk : k ≤ 300) (hjf : X.jf = putF jf0 0 X.v0) (hsnd : snd < X.N) (hnd0 : p.fresh.Nodup ∧ ∀ i ∈ p.fresh, i < X.N ∧ p.seen i = true) :
    BN w wq { X with v0 := v, l0 := p.fresh, jf := putF jf0 0 v, r := putF rr 518 (.pointer (some ⟨X.jb, 0, none⟩)), snd := snd } ab m0 m1 zb sb lb p.seen l ed rr := by
  have nd := h.nd
  simp only [List.mem_cons, not_or, List.not_mem_nil, not_false_eq_true, and_true, List.nodup_cons] at nd
  have hf := hL.fr
  have hb : ∀ g ∈ [X.nb, X.qb, X.ib, X.cb, X.vb, ab, m0, m1, zb, lb], wq.heap[g]? = wA.heap[g]? := fun g hg => by
    refine hf.block g (h.lt g ?_) ?_
    · simp only [List.mem_cons, List.not_mem_nil, or_false] at hg ⊢
      grind
    · simp only [List.mem_cons, List.not_mem_nil, or_false, not_or] at hg ⊢
      grind
  have jx : ∀ i, i ≠ 0 → putF jf0 0 v i = X.jf i := fun i hi => by rw [hjf]; simp [putF, hi]
  exact {
    net := h.net.of_blocks (hb _ (by simp)) (hb _ (by simp)) (hb _ (by simp))
    hid := h.hid
    hinj := h.hinj
    hcw := h.hcw
    hN := h.hN
    hs := h.hs
    hsnd := hsnd
    hl0 := by have := hL.len; show p.fresh.length ≤ 300; omega
    j1 := (jx 1 (by omega)).trans h.j1
    j260 := (jx 260 (by omega)).trans h.j260
    node := ⟨h.node.row.of_block (hb _ (by simp)), h.node.r0, h.node.r1, h.node.r2⟩
    ed0 := h.ed0
    ed1 := h.ed1
    r515 := h.r515
    r516 := h.r516
    r520 := h.r520
    r519 := h.r519
    j261 := (jx 261 (by omega)).trans h.j261
    j262 := by obtain ⟨x, hx⟩ := h.j262; exact ⟨x, (jx 262 (by omega)).trans hx⟩
    jst := fun p hp => by obtain ⟨x, hx⟩ := h.jst p hp; exact ⟨x, (jx (4 + p) (by omega)).trans hx⟩
    l0nd := hnd0.1
    l0s := hnd0.2
    r777 := h.r777
    m0e := (hb _ (by simp)).trans h.m0e
    m1e := (hb _ (by simp)).trans h.m1e
    spec := h.spec
    ok := h.ok
    hl := h.hl
    jrow := hL.jrow
    j0 := by show putF jf0 0 v 0 = v; simp [putF]
    j2 := (jx 2 (by omega)).trans h.j2
    j263 := (jx 263 (by omega)).trans h.j263
    heard := hL.heard.mono (by omega)
    wanted := h.wanted.of_block (hb _ (by simp))
    own := hL.own
    asked := h.asked.of_block (hb _ (by simp))
    zset := h.zset.of_block (hb _ (by simp))
    seen := hL.seen
    inl := h.inl.of_block (hb _ (by simp))
    bel := h.bel.trans (hf.below h.bel.size (fun g hg => by
      simp only [List.mem_cons, List.not_mem_nil, or_false] at hg
      rcases hg with h1 | h1 | h1
      · rw [h1]; exact h.low _ (by simp)
      · rw [h1]; exact h.low _ (by simp)
      · rw [h1]; exact h.low _ (by simp)))
    low := h.low
    nd := h.nd
    vfar := fun g hg => ⟨fun hm => by have := h.lt g hm; have := hL.fz g hg; omega, by have := hL.fz g hg; have := h.bel.size; omega⟩ }

set_option maxHeartbeats 4000000 in
set_option maxRecDepth 100000 in
theorem b_t16 {w wA : World} {X : Cx} {ab m0 m1 zb sb lb : Nat} {l : List Nat} {ed : Int} {rr jf0 : Nat → Value} {pn prc mn mgc snr bn bpc : Nat} {pv mv xn : Nat → Nat} {yc : Nat → Int} {pra mga bpa : Option Addr} (hB : BN w wA X ab m0 m1 zb sb lb (fun _ => false) l ed rr) (hL0 : LP wA wA X.N X.s X.id X.cw X.jb X.hb sb jf0 (pp X.N pv 0) (.slice none 0 0) 0) (hjf : X.jf = putF jf0 0 X.v0)
    (hpn : pn ≤ 300) (hpr : U8 w pra pn pv) (hpv : ∀ i, pv i < 256)
    (hmn : mn ≤ 300) (hsnr : snr < 256) (hmg : U8 w mga mn mv) (hmv : ∀ i, mv i < 256) (hbn : bn ≤ 300) (hbp : Bps w bpa bn xn yc) (hxn : ∀ i, xn i < 256) (hyc : ∀ i, -128 ≤ yc i ∧ yc i ≤ 127) {q0 q1 q2 q7 q8 q9 q10 q11 q12 q13 q14 q18 q19 q21 q23 q24 q25 q26 q31 q32 q33 q34 q35 q36 q37 q38 q39 q40 q41 q42 q43 q44 q45 q46 q47 q48 q49 q50 q51 q52 q53 q54 q55 q56 q57 q58 q59 q60 q61 q62 q63 q64 q65 q66 q67 q68 q69 q70 q71 q72 q73 q74 q75 q76 q77 q78 q79 q80 q81 q82 q83 q84 q85 q86 q87 q88 q89 q90 q91 q92 q93 q94 q95 q96 q97 q98 q99 q100 q101 q102 q103 q104 q105 q106 q107 q108 q109 q110 q111 q112 q113 q114 q115 q116 q117 q118 q119 q120 q121 q122 q123 q124 q125 q126 q127 q128 q129 q130 q131 q132 q133 q134 q135 q136 q137 q138 q139 q140 q141 q142 q143 q144 q145 q146 q147 q148 q149 q150 q151 q152 q153 q154 q155 q156 q157 q158 q159 q160 q161 q162 q163 q164 q165 q166 q167 q168 q169 q170 q171 q172 q173 q174 q175 q176 q177 q178 q179 q180 q181 q182 q183 q184 q185 q186 q187 q188 q189 q190 q191 q192 q193 q194 q195 q196 q197 q198 q199 q200 q201 q202 q203 q204 q205 q206 q207 q208 q209 q210 q211 q212 q213 q214 q215 q216 q217 q218 q219 q220 q221 q222 q223 q224 q225 q226 q227 q228 q229 q230 q231 q232 q233 q234 q235 q236 q237 q238 q239 q240 q241 q242 q243 q244 q245 q246 q247 q248 q249 q250 q251 q252 q253 q254 q255 q256 q257 q258 q259 q260 q261 q262 q263 q264 q265 q266 q267 q268 q269 q270 q271 q272 q273 q274 q275 q276 q277 q278 q279 q280 q281 q282 q283 q284 q285 q286 q287 q288 q289 q290 q291 q292 q293 q294 q295 q296 q297 q298 q299 q300 q301 q302 q303 q304 q305 q306 q307 q308 q309 q310 q311 q312 q313 q314 q315 q316 q317 q318 q319 q320 q321 q322 q323 q324 q325 q326 q327 q328 q329 q330 q331 q332 q333 : Value} :
    Code.wp Ybaz.prog tail16 (bodyPost Ybaz.prog Ybaz.f5 (BPost w)) ⟨#[q0, q1, q2, .slice pra pn prc, .slice mga mn mgc, .int .u8 ((snr : Nat) : Int), .slice bpa bn bpc, q7, q8, q9, q10, q11, q12, q13, q14, .int .i64 ((X.N : Nat) : Int), .slice (some ⟨X.ib, 0, none⟩) X.N X.N, .pointer (some ⟨X.vb, 0, none⟩), q18, q19, .int .i64 ((X.s : Nat) : Int), q21, .slice (some ⟨lb, 0, none⟩) X.N X.N, q23, q24, q25, q26, .pointer (some ⟨X.nb, 0, none⟩), .pointer (some ⟨X.jb, 0, none⟩), .slice (some ⟨sb, 0, none⟩) X.N X.N, .int .i64 0, q31, q32, q33, q34, q35, q36, q37, q38, q39, q40, q41, q42, q43, q44, q45, q46, q47, q48, q49, q50, q51, q52, q53, q54, q55, q56, q57, q58, q59, q60, q61, q62, q63, q64, q65, q66, q67, q68, q69, q70, q71, q72, q73, q74, q75, q76, q77, q78, q79, q80, q81, q82, q83, q84, q85, q86, q87, q88, q89, q90, q91, q92, q93, q94, q95, q96, q97, q98, q99, q100, q101, q102, q103, q104, q105, q106, q107, q108, q109, q110, q111, q112, q113, q114, q115, q116, q117, q118, q119, q120, q121, q122, q123, q124, q125, q126, q127, q128, q129, q130, q131, q132, q133, q134, q135, q136, q137, q138, q139, q140, q141, q142, q143, q144, q145, q146, q147, q148, q149, q150, q151, q152, q153, q154, q155, q156, q157, q158, q159, q160, q161, q162, q163, q164, q165, q166, q167, q168, q169, q170, q171, q172, q173, q174, q175, q176, q177, q178, q179, q180, q181, q182, q183, q184, q185, q186, q187, q188, q189, q190, q191, q192, q193, q194, q195, q196, q197, q198, q199, q200, q201, q202, q203, q204, q205, q206, q207, q208, q209, q210, q211, q212, q213, q214, q215, q216, q217, q218, q219, q220, q221, q222, q223, q224, q225, q226, q227, q228, q229, q230, q231, q232, q233, q234, q235, q236, q237, q238, q239, q240, q241, q242, q243, q244, q245, q246, q247, q248, q249, q250, q251, q252, q253, q254, q255, q256, q257, q258, q259, q260, q261, q262, q263, q264, q265, q266, q267, q268, q269, q270, q271, q272, q273, q274, q275, q276, q277, q278, q279, q280, q281, q282, q283, q284, q285, q286, q287, q288, q289, q290, q291, q292, q293, q294, q295, q296, q297, q298, q299, q300, q301, q302, q303, q304, q305, q306, q307, q308, q309, q310, q311, q312, q313, q314, q315, q316, q317, q318, q319, q320, q321, q322, q323, q324, q325, q326, q327, q328, q329, q330, q331, q332, q333], []⟩ wA := by
  have hN := hB.hN
  have hN0 : 0 < X.N := by have := hB.hs; omega
  have hid := hB.hid
  have hsN := hB.hs
  have nz : ¬ X.N = 0 := by omega
  have s0 : (0 : Int) ≤ ((X.s : Nat) : Int) := by omega
  have s1 : ((X.s : Nat) : Int) < ((X.N : Nat) : Int) := by omega
  have HB := hide hB
  have HL0 := hide hL0
  have Hjf := hide hjf
  have Hpr := hide hpr
  have Hmg := hide hmg
  have Hbp := hide hbp
  clear hB hL0 hjf hpr hmg hbp
  conv => arg 2; simp only [tail16, Ybaz.f5, Option.getD_some, sndSeq]
  go_upto_block 4 with fail
  go_cut [30] (fun s30 wq => ∃ v, s30 = .int .i64 (((pp X.N pv pn).fresh.length : Nat) : Int) ∧ Hid (LP wA wq X.N X.s X.id X.cw X.jb X.hb sb jf0 (pp X.N pv pn) v pn))
  case first =>
    go_wp2_with fail
    go_loopw [139, 30] (fun iv pcv wq => ∃ k : Nat, k ≤ pn ∧ iv = .int .i64 (k : Int) ∧ ∃ v, pcv = .int .i64 (((pp X.N pv k).fresh.length : Nat) : Int) ∧ Hid (LP wA wq X.N X.s X.id X.cw X.jb X.hb sb jf0 (pp X.N pv k) v k)) (fun iv _ _ => pn - (intOf iv).toNat)
    case atStart => exact ⟨0, by omega, rfl, _, rfl, HL0⟩
    case round =>
      obtain ⟨k, hk, rfl, v, rfl, hL⟩ := hrel
      by_cases hkl : k < pn
      · rename World => wq
        have hlow := (unhide HB).low
        have hAq : Below w.heap.size w wq := (unhide HB).bel.trans ((unhide hL).fr.below (unhide HB).bel.size (fun g hg => by
          simp only [List.mem_cons, List.not_mem_nil, or_false] at hg
          rcases hg with h1 | h1 | h1
          · rw [h1]; exact hlow _ (by simp)
          · rw [h1]; exact hlow _ (by simp)
          · rw [h1]; exact hlow _ (by simp)))
        obtain ⟨b, o, rfl, p0⟩ := (unhide Hpr).at hAq hkl
        have k0 : (0 : Int) ≤ (k : Int) := by omega
        have k1 : (k : Int) < (pn : Int) := by omega
        have hm1 := hpv k
        have hjN : pv k % X.N < X.N := Nat.mod_lt _ hN0
        have hplen := pp_len X.N pv k
        clear hlow hAq
        go_upto_region 31 with fail
        obtain ⟨pc, hpc⟩ : ∃ pc, pp X.N pv k = pc := ⟨_, rfl⟩
        have hpn' : pp X.N pv (k + 1) = pc.hear (pv k % X.N) := by simp only [pp]; rw [hpc]
        rw [hpc] at hL hplen ⊢
        have e1 : ((pv k : Nat) : Int) % ((X.N : Nat) : Int) = ((pv k % X.N : Nat) : Int) := by simp
        rw [e1]
        obtain ⟨j, hj⟩ : ∃ j, pv k % X.N = j := ⟨_, rfl⟩
        rw [hj] at hjN hpn' ⊢
        have Hpn := hide hpn'
        clear e1 hj hpn' hpc p0
        have j0 : (0 : Int) ≤ ((j : Nat) : Int) := by omega
        have j1 : ((j : Nat) : Int) < ((X.N : Nat) : Int) := by omega
        have r1 := (unhide hL).seen.cell hjN
        have z1 := (unhide hL).seen.frozen j
        cases hsn : pc.seen j
        · have Hsn := hide hsn
          rw [hsn] at r1
          clear hsn
          obtain ⟨n1, n2, n3⟩ := (unhide hL).nd
          have g1 : wq.cell? ⟨X.jb, 1, none⟩ = some (.map (some X.hb)) := ((unhide hL).jrow.cell (by omega)).trans (by
            have h := (unhide HB).j1
            rw [unhide Hjf] at h
            simp [putF] at h ⊢
            exact h)
          have hs2 : SetAt (wq.setCell ⟨sb, j, none⟩ (.bool true)) X.hb k (up pc.seen) (cntB pc.seen X.N) := (unhide hL).heard.of_block (Below.heap_setCell _ _ _ _ n3)
          obtain ⟨w3, hput, hset3, hmo3⟩ := hs2.put (j := ((j : Nat) : Int)) (iwf (by omega) (by omega)) (by have : maxLen = 9223372036854775807 := rfl; omega)
          have Hset3 := hide hset3
          have Hmo3 := hide hmo3
          have nd := (unhide HB).nd
          simp only [List.mem_cons, not_or, List.not_mem_nil, not_false_eq_true, and_true, List.nodup_cons] at nd
          have hF3 : Fr wA w3 [X.jb, X.hb, sb] := ((unhide hL).fr.trans ((Fr.refl _ _).set (by simp) _ _)).trans (.of_map hmo3 (by simp))
          have hN3 : Net w3 X.ib X.cb X.vb X.N X.id X.cw := (unhide HB).net.fr hF3 (by simp only [List.mem_cons, List.not_mem_nil, or_false, not_or]; grind) (by simp only [List.mem_cons, List.not_mem_nil, or_false, not_or]; grind) (by simp only [List.mem_cons, List.not_mem_nil, or_false, not_or]; grind)
          have hlt3 := (unhide HB).lt
          have hvf : ∀ g ∈ X.jb :: ob v, g ∉ [X.ib, X.cb, X.vb] := fun g hg hm => by
            rcases List.mem_cons.1 hg with h1 | h1
            · subst h1
              simp only [List.mem_cons, List.not_mem_nil, or_false] at hm
              grind
            · have h2 := (unhide hL).fz g h1
              have h3 := hlt3 g (by
                simp only [List.mem_cons, List.not_mem_nil, or_false] at hm ⊢
                grind)
              omega
          have KS : Hid (∀ w', Fr w3 w' (X.jb :: ob v) → w'.cell? ⟨X.vb, 0, none⟩ = some (.slice (some ⟨X.cb, 0, none⟩) X.N X.N) ∧ w'.cell? ⟨X.cb, j, none⟩ = some (.float .f64 (X.cw j)) ∧ w'.cell? ⟨X.ib, X.s, none⟩ = some (.int .u64 ((X.id X.s : Nat) : Int)) ∧ w'.cell? ⟨X.ib, j, none⟩ = some (.int .u64 ((X.id j : Nat) : Int))) := fun w' hf =>
            ⟨hf.cell hN3.var (fun hm => hvf _ hm (by simp)), hf.cell (hN3.cost.cell hjN) (fun hm => hvf _ hm (by simp)), hf.cell (hN3.ids.cell hsN) (fun hm => hvf _ hm (by simp)), hf.cell (hN3.ids.cell hjN) (fun hm => hvf _ hm (by simp))⟩
          have HRJ : Hid (w3.rowIs X.jb 47 267 (putF jf0 0 v)) := ((unhide hL).jrow.of_block (Below.heap_setCell _ _ _ _ n2)).of_block (hmo3.block n1)
          have C0 : Hid (w3.cell? ⟨X.jb, 0, none⟩ = some v) := ((unhide HRJ).cell (by omega)).trans (by simp [putF])
          have HJV : Hid (X.jb ∉ ob v) := fun hm => by have := (unhide hL).fz _ hm; have := (unhide hL).lt.1; omega
          have HO3 : Hid (w3.ownsRow 0 65 3 v pc.fresh.length (hdsL X.cw X.id X.s pc.fresh)) := own_of_block (unhide hL).own (fun g hg => (hmo3.block (fun e => by have := (unhide hL).fz g hg; have := (unhide hL).lt.2.1; omega)).trans (Below.heap_setCell _ _ _ _ (fun e => by have h2 := (unhide hL).fz g hg; have h3 := (unhide hL).lt.2.2; have e' : g = sb := e; omega)))
          have g1' : (wq.setCell ⟨sb, j, none⟩ (.bool true)).cell? ⟨X.jb, 1, none⟩ = some (.map (some X.hb)) := (World.cell?_of_block (a := ⟨X.jb, 1, none⟩) (Below.heap_setCell _ _ _ _ n2)).trans g1
          obtain ⟨i5, hi5, hz5, hsz5, hby5⟩ := inf65
          clear hset3 hmo3 nd hF3 hN3 hlt3 hvf hs2 n1 n2 n3
          go_upto_region 34 with fail
          clear hput g1 g1' r1 z1
          refine wp_region_held_drew (S := fun w' => w'.cell? ⟨X.vb, 0, none⟩ = some (.slice (some ⟨X.cb, 0, none⟩) X.N X.N) ∧ w'.cell? ⟨X.cb, j, none⟩ = some (.float .f64 (X.cw j)) ∧ w'.cell? ⟨X.ib, X.s, none⟩ = some (.int .u64 ((X.id X.s : Nat) : Int)) ∧ w'.cell? ⟨X.ib, j, none⟩ = some (.int .u64 ((X.id j : Nat) : Int))) (by kernel_rfl) (unhide KS _ ((Fr.refl _ _).same ((Same.refl _).drew))) (fun hHeld => ?_)
          refine wpAnyH_take (i := 0) (oi := { dst := some 161, op := Op.move (Operand.tmp 28), type := 27, pos := "zz_law_s3498b.go:72", after := _, guard := none }) (v := ?_) rfl (by kernel_rfl) (by kernel_rfl) (by kernel_rfl) (fun _ _ _ h => h) (Or.inl ⟨by rfl, ?_⟩) (by assumption) ?_
          rotate_left 1
          · (intro w hSw; (try dsimp only at hSw); go_simp <;> with_reducible rfl)
          try simp only [Act.put, List.setIfInBounds_toArray, List.set_cons_zero, List.set_cons_succ]
          refine wpAnyH_take (i := 1) (oi := { dst := some 162, op := Op.move (Operand.tmp 28), type := 27, pos := "zz_law_s3498b.go:72", after := _, guard := none }) (v := ?_) rfl (by kernel_rfl) (by kernel_rfl) (by kernel_rfl) (fun _ _ _ h => h) (Or.inl ⟨by rfl, ?_⟩) (by assumption) ?_
          rotate_left 1
          · (intro w hSw; (try dsimp only at hSw); go_simp <;> with_reducible rfl)
          try simp only [Act.put, List.setIfInBounds_toArray, List.set_cons_zero, List.set_cons_succ]
          refine wpAnyH_take (i := 2) (oi := { dst := some 163, op := Op.nilCheck (Operand.tmp 162), type := 0, pos := "zz_law_s3498b.go:72", after := _, guard := none }) (v := ?_) rfl (by kernel_rfl) (by kernel_rfl) (by kernel_rfl) (fun _ _ _ h => h) (Or.inl ⟨by rfl, ?_⟩) (by assumption) ?_
          rotate_left 1
          · (intro w hSw; (try dsimp only at hSw); go_simp <;> with_reducible rfl)
          try simp only [Act.put, List.setIfInBounds_toArray, List.set_cons_zero, List.set_cons_succ]
          refine wpAnyH_take (i := 3) (oi := { dst := some 164, op := Op.fieldAddr 47 (Operand.tmp 163) 0, type := 0, pos := "zz_law_s3498b.go:72", after := _, guard := none }) (v := ?_) rfl (by kernel_rfl) (by kernel_rfl) (by kernel_rfl) (fun _ _ _ h => h) (Or.inl ⟨by rfl, ?_⟩) (by assumption) ?_
          rotate_left 1
          · (intro w hSw; (try dsimp only at hSw); go_simp <;> with_reducible rfl)
          try simp only [Act.put, List.setIfInBounds_toArray, List.set_cons_zero, List.set_cons_succ]
          refine wpAnyH_take (i := 4) (oi := { dst := some 165, op := Op.fieldAddr 43 (Operand.tmp 164) 0, type := 0, pos := "zz_law_s3498b.go:72", after := _, guard := none }) (v := ?_) rfl (by kernel_rfl) (by kernel_rfl) (by kernel_rfl) (fun _ _ _ h => h) (Or.inl ⟨by rfl, ?_⟩) (by assumption) ?_
          rotate_left 1
          · (intro w hSw; (try dsimp only at hSw); go_simp <;> with_reducible rfl)
          try simp only [Act.put, List.setIfInBounds_toArray, List.set_cons_zero, List.set_cons_succ]
          refine wpAnyH_take (i := 6) (oi := { dst := some 167, op := Op.move (Operand.tmp 33), type := 3, pos := "zz_law_s3498b.go:72", after := _, guard := none }) (v := ?_) rfl (by kernel_rfl) (by kernel_rfl) (by kernel_rfl) (fun _ _ _ h => h) (Or.inl ⟨by rfl, ?_⟩) (by assumption) ?_
          rotate_left 1
          · (intro w hSw; (try dsimp only at hSw); go_simp <;> with_reducible rfl)
          try simp only [Act.put, List.setIfInBounds_toArray, List.set_cons_zero, List.set_cons_succ]
          refine wpAnyH_take (i := 7) (oi := { dst := some 168, op := Op.load 29 (Operand.tmp 17), type := 29, pos := "zz_law_s3498b.go:72", after := _, guard := none }) (v := ?_) rfl (by kernel_rfl) (by kernel_rfl) (by kernel_rfl) (fun _ _ _ h => h) (Or.inl ⟨by rfl, ?_⟩) (by assumption) ?_
          rotate_left 1
          · (intro w hSw; (try dsimp only at hSw); go_simp <;> with_reducible rfl)
          try simp only [Act.put, List.setIfInBounds_toArray, List.set_cons_zero, List.set_cons_succ]
          refine wpAnyH_take (i := 8) (oi := { dst := some 169, op := Op.move (Operand.tmp 33), type := 3, pos := "zz_law_s3498b.go:72", after := _, guard := none }) (v := ?_) rfl (by kernel_rfl) (by kernel_rfl) (by kernel_rfl) (fun _ _ _ h => h) (Or.inl ⟨by rfl, ?_⟩) (by assumption) ?_
          rotate_left 1
          · (intro w hSw; (try dsimp only at hSw); go_simp <;> with_reducible rfl)
          try simp only [Act.put, List.setIfInBounds_toArray, List.set_cons_zero, List.set_cons_succ]
          refine wpAnyH_take (i := 9) (oi := { dst := some 170, op := Op.indexAddr 29 (Operand.tmp 168) (Operand.tmp 169), type := 0, pos := "zz_law_s3498b.go:72", after := _, guard := none }) (v := ?_) rfl (by kernel_rfl) (by kernel_rfl) (by kernel_rfl) (fun _ _ _ h => h) (Or.inl ⟨by rfl, ?_⟩) (by assumption) ?_
          rotate_left 1
          · (intro w hSw; (try dsimp only at hSw); go_simp <;> with_reducible rfl)
          try simp only [Act.put, List.setIfInBounds_toArray, List.set_cons_zero, List.set_cons_succ]
          refine wpAnyH_take (i := 10) (oi := { dst := some 171, op := Op.load 51 (Operand.tmp 170), type := 51, pos := "zz_law_s3498b.go:72", after := _, guard := none }) (v := ?_) rfl (by kernel_rfl) (by kernel_rfl) (by kernel_rfl) (fun _ _ _ h => h) (Or.inl ⟨by rfl, ?_⟩) (by assumption) ?_
          rotate_left 1
          · (intro w hSw; (try dsimp only at hSw); go_simp <;> with_reducible rfl)
          try simp only [Act.put, List.setIfInBounds_toArray, List.set_cons_zero, List.set_cons_succ]
          refine wpAnyH_take (i := 11) (oi := { dst := some 172, op := Op.move (Operand.tmp 16), type := 28, pos := "zz_law_s3498b.go:72", after := _, guard := none }) (v := ?_) rfl (by kernel_rfl) (by kernel_rfl) (by kernel_rfl) (fun _ _ _ h => h) (Or.inl ⟨by rfl, ?_⟩) (by assumption) ?_
          rotate_left 1
          · (intro w hSw; (try dsimp only at hSw); go_simp <;> with_reducible rfl)
          try simp only [Act.put, List.setIfInBounds_toArray, List.set_cons_zero, List.set_cons_succ]
          refine wpAnyH_take (i := 12) (oi := { dst := some 173, op := Op.move (Operand.tmp 20), type := 3, pos := "zz_law_s3498b.go:72", after := _, guard := none }) (v := ?_) rfl (by kernel_rfl) (by kernel_rfl) (by kernel_rfl) (fun _ _ _ h => h) (Or.inl ⟨by rfl, ?_⟩) (by assumption) ?_
          rotate_left 1
          · (intro w hSw; (try dsimp only at hSw); go_simp <;> with_reducible rfl)
          try simp only [Act.put, List.setIfInBounds_toArray, List.set_cons_zero, List.set_cons_succ]
          refine wpAnyH_take (i := 13) (oi := { dst := some 174, op := Op.indexAddr 28 (Operand.tmp 172) (Operand.tmp 173), type := 0, pos := "zz_law_s3498b.go:72", after := _, guard := none }) (v := ?_) rfl (by kernel_rfl) (by kernel_rfl) (by kernel_rfl) (fun _ _ _ h => h) (Or.inl ⟨by rfl, ?_⟩) (by assumption) ?_
          rotate_left 1
          · (intro w hSw; (try dsimp only at hSw); go_simp <;> with_reducible rfl)
          try simp only [Act.put, List.setIfInBounds_toArray, List.set_cons_zero, List.set_cons_succ]
          refine wpAnyH_take (i := 14) (oi := { dst := some 175, op := Op.load 34 (Operand.tmp 174), type := 34, pos := "zz_law_s3498b.go:72", after := _, guard := none }) (v := ?_) rfl (by kernel_rfl) (by kernel_rfl) (by kernel_rfl) (fun _ _ _ h => h) (Or.inl ⟨by rfl, ?_⟩) (by assumption) ?_
          rotate_left 1
          · (intro w hSw; (try dsimp only at hSw); go_simp <;> with_reducible rfl)
          try simp only [Act.put, List.setIfInBounds_toArray, List.set_cons_zero, List.set_cons_succ]
          refine wpAnyH_take (i := 15) (oi := { dst := some 176, op := Op.move (Operand.tmp 16), type := 28, pos := "zz_law_s3498b.go:72", after := _, guard := none }) (v := ?_) rfl (by kernel_rfl) (by kernel_rfl) (by kernel_rfl) (fun _ _ _ h => h) (Or.inl ⟨by rfl, ?_⟩) (by assumption) ?_
          rotate_left 1
          · (intro w hSw; (try dsimp only at hSw); go_simp <;> with_reducible rfl)
          try simp only [Act.put, List.setIfInBounds_toArray, List.set_cons_zero, List.set_cons_succ]
          refine wpAnyH_take (i := 16) (oi := { dst := some 177, op := Op.move (Operand.tmp 33), type := 3, pos := "zz_law_s3498b.go:72", after := _, guard := none }) (v := ?_) rfl (by kernel_rfl) (by kernel_rfl) (by kernel_rfl) (fun _ _ _ h => h) (Or.inl ⟨by rfl, ?_⟩) (by assumption) ?_
          rotate_left 1
          · (intro w hSw; (try dsimp only at hSw); go_simp <;> with_reducible rfl)
          try simp only [Act.put, List.setIfInBounds_toArray, List.set_cons_zero, List.set_cons_succ]
          refine wpAnyH_take (i := 17) (oi := { dst := some 178, op := Op.indexAddr 28 (Operand.tmp 176) (Operand.tmp 177), type := 0, pos := "zz_law_s3498b.go:72", after := _, guard := none }) (v := ?_) rfl (by kernel_rfl) (by kernel_rfl) (by kernel_rfl) (fun _ _ _ h => h) (Or.inl ⟨by rfl, ?_⟩) (by assumption) ?_
          rotate_left 1
          · (intro w hSw; (try dsimp only at hSw); go_simp <;> with_reducible rfl)
          try simp only [Act.put, List.setIfInBounds_toArray, List.set_cons_zero, List.set_cons_succ]
          refine wpAnyH_take (i := 18) (oi := { dst := some 179, op := Op.load 34 (Operand.tmp 178), type := 34, pos := "zz_law_s3498b.go:72", after := _, guard := none }) (v := ?_) rfl (by kernel_rfl) (by kernel_rfl) (by kernel_rfl) (fun _ _ _ h => h) (Or.inl ⟨by rfl, ?_⟩) (by assumption) ?_
          rotate_left 1
          · (intro w hSw; (try dsimp only at hSw); go_simp <;> with_reducible rfl)
          try simp only [Act.put, List.setIfInBounds_toArray, List.set_cons_zero, List.set_cons_succ]
          refine wpAnyH_ready (rs := [5, 19]) (by kernel_rfl) (by simp) ?_
          refine AllReadyH.cons (o := { dst := some 166, op := Op.load 40 (Operand.tmp 165), type := 40, pos := "zz_law_s3498b.go:72", after := _, guard := none }) rfl (fun K hK => ?_) (AllReadyH.cons (o := { dst := some 180, op := Op.call { callee := Callee.value (Operand.func 8), args := #[Operand.tmp 175, Operand.tmp 179], argTypes := #[34, 34] }, type := 3, pos := "zz_law_s3498b.go:72", after := _, guard := none }) rfl (fun K hK => ?_) AllReadyH.nil)
          · have cL : w3.drew.cell? ⟨X.jb, 0, none⟩ = some v := unhide C0
            go_simp
            refine hK.out _ _ (unhide KS _ ((Fr.refl _ _).same ((Same.refl _).drew))) (fun hHeld => ?_)
            clear hK K
            try simp only [Act.put, List.setIfInBounds_toArray, List.set_cons_zero, List.set_cons_succ]
            refine wpAnyH_ready (rs := [19]) (by kernel_rfl) (by simp) ?_
            refine AllReadyH.cons (o := { dst := some 180, op := Op.call { callee := Callee.value (Operand.func 8), args := #[Operand.tmp 175, Operand.tmp 179], argTypes := #[34, 34] }, type := 3, pos := "zz_law_s3498b.go:72", after := _, guard := none }) rfl (fun K hK => ?_) AllReadyH.nil
            go_simp
            refine (zshared_any (X.id X.s) (X.id j) _ (hid _) (hid _)).mono ?_
            rintro e wz ⟨rfl, rfl⟩
            try (go_wp2_with fail)
            refine hK.out _ _ (unhide KS _ ((Fr.refl _ _).same ((Same.refl _).drew))) (fun hHeld => ?_)
            clear hK K
            try simp only [Act.put, List.setIfInBounds_toArray, List.set_cons_zero, List.set_cons_succ]
            refine wpAnyH_take (i := 20) (oi := { dst := some 181, op := Op.build 65 #[(0, Operand.tmp 167), (1, Operand.tmp 171), (2, Operand.tmp 180)], type := 65, pos := "zz_law_s3498b.go:72", after := _, guard := none }) rfl (by kernel_rfl) (by kernel_rfl) (by kernel_rfl) (fun _ _ _ h => h) (yields_build3 (by rfl) 65 0 1 2 (Operand.tmp 167) (Operand.tmp 171) (Operand.tmp 180) rfl (.int .i64 ((j : Nat) : Int)) (.float .f64 (X.cw j)) (.int .i64 ((shD (X.id X.s) (X.id j) : Nat) : Int)) rfl rfl rfl #[.int .i64 ((j : Nat) : Int), .float .f64 (X.cw j), .int .i64 ((shD (X.id X.s) (X.id j) : Nat) : Int)] (build65 ((j : Nat) : Int) (X.cw j) ((shD (X.id X.s) (X.id j) : Nat) : Int))) (by assumption) ?_
            try simp only [Act.put, List.setIfInBounds_toArray, List.set_cons_zero, List.set_cons_succ]
            refine wpAnyH_ready (rs := [21]) (by kernel_rfl) (by simp) ?_
            refine AllReadyH.cons (o := { dst := some 182, op := Op.buildSlice 40 1 #[(0, Operand.tmp 181)], type := 40, pos := "zz_law_s3498b.go:72", after := _, guard := none }) rfl (fun K hK => ?_) AllReadyH.nil
            go_simp
            refine hK.out _ _ (unhide KS _ (((Fr.refl _ _).same ((Same.refl _).drew)).alloc _)) (fun hHeld => ?_)
            clear hK K
            try simp only [Act.put, List.setIfInBounds_toArray, List.set_cons_zero, List.set_cons_succ]
            refine wpAnyH_ready (rs := [22]) (by kernel_rfl) (by simp) ?_
            refine AllReadyH.cons (o := { dst := some 183, op := Op.call { callee := Callee.builtin Builtin.append, args := #[Operand.tmp 166, Operand.tmp 182], argTypes := #[40, 40] }, type := 40, pos := "zz_law_s3498b.go:72", after := _, guard := none }) rfl (fun K hK => ?_) AllReadyH.nil
            rw [if_pos (by rfl)]
            refine wp_append_lies _ _ _ _ rfl 0 65 i5 _ 3 24 Ybaz.underlying40 hi5 hz5 hsz5 hby5 rfl (by omega) v pc.fresh.length (hdsL X.cw X.id X.s pc.fresh) (by simp [Act.eval]; done) (own_fr (unhide HO3) (((Fr.refl _ []).same ((Same.refl _).drew)).alloc _) (by simp)) ⟨w3.heap.size, 0, none⟩ 1 1 (hdL X.cw X.id X.s j) (by simp [Act.eval]; done) rfl ?_ ?_ (by omega) (by have : maxLen = 9223372036854775807 := rfl; omega) (by omega) (Nat.zero_le _) (w3.heap.size + 1) (by simp) ?_
            · intro i u hi
              have := rangeAt_new w3.drew #[.int .i64 ((j : Nat) : Int), .float .f64 (X.cw j), .int .i64 ((shD (X.id X.s) (X.id j) : Nat) : Int)] 65 _ rfl i u hi
              rw [Nat.zero_add] at this
              rw [Addr.add_mid, Nat.zero_add]
              exact this
            · intro u hu
              simp [hdL] at hu
              rcases hu with rfl | rfl | rfl <;> rfl
            intro g cap w4 hown4 hgrow4 hat4 hlt4
            try simp only [Act.put, List.setIfInBounds_toArray, List.set_cons_zero, List.set_cons_succ]
            have hF4 : Fr w3 w4 (ob v) := (((Fr.refl _ _).same ((Same.refl _).drew)).alloc _).trans (.of_grown hgrow4)
            have hg4 : g ∈ ob v ∨ w3.heap.size ≤ g := by
              rcases hat4 with h | h
              · left; simp [ob, h]
              · right; rw [h]; omega
            refine hK.out _ _ (unhide KS _ (hF4.mono (fun x hx => List.mem_cons_of_mem _ hx))) (fun hHeld => ?_)
            clear hK K
            try simp only [Act.put, List.setIfInBounds_toArray, List.set_cons_zero, List.set_cons_succ]
            have d0 : w4.cell? ⟨X.jb, 0, none⟩ = some v := hF4.cell (unhide C0) (unhide HJV)
            have z0 : w4.frozen? ⟨X.jb, 0, none⟩ = false := (World.frozen?_of_block (a := ⟨X.jb, 0, none⟩) (hF4.block X.jb (unhide HRJ).lt (unhide HJV))).trans ((unhide HRJ).frozen 0)
            have HF4 := hide hF4
            have Hown4 := hide hown4
            have Hg4 := hide hg4
            clear hown4 hgrow4 hat4 hF4 hg4
            refine wpAnyH_take (i := 23) (oi := { dst := some 184, op := Op.nilCheck (Operand.tmp 161), type := 0, pos := "zz_law_s3498b.go:72", after := _, guard := none }) (v := ?_) rfl (by kernel_rfl) (by kernel_rfl) (by kernel_rfl) (fun _ _ _ h => h) (Or.inl ⟨by rfl, ?_⟩) (by assumption) ?_
            rotate_left 1
            · (intro w hSw; (try dsimp only at hSw); go_simp <;> with_reducible rfl)
            try simp only [Act.put, List.setIfInBounds_toArray, List.set_cons_zero, List.set_cons_succ]
            refine wpAnyH_take (i := 24) (oi := { dst := some 185, op := Op.fieldAddr 47 (Operand.tmp 184) 0, type := 0, pos := "zz_law_s3498b.go:72", after := _, guard := none }) (v := ?_) rfl (by kernel_rfl) (by kernel_rfl) (by kernel_rfl) (fun _ _ _ h => h) (Or.inl ⟨by rfl, ?_⟩) (by assumption) ?_
            rotate_left 1
            · (intro w hSw; (try dsimp only at hSw); go_simp <;> with_reducible rfl)
            try simp only [Act.put, List.setIfInBounds_toArray, List.set_cons_zero, List.set_cons_succ]
            refine wpAnyH_take (i := 25) (oi := { dst := some 186, op := Op.fieldAddr 43 (Operand.tmp 185) 0, type := 0, pos := "zz_law_s3498b.go:72", after := _, guard := none }) (v := ?_) rfl (by kernel_rfl) (by kernel_rfl) (by kernel_rfl) (fun _ _ _ h => h) (Or.inl ⟨by rfl, ?_⟩) (by assumption) ?_
            rotate_left 1
            · (intro w hSw; (try dsimp only at hSw); go_simp <;> with_reducible rfl)
            try simp only [Act.put, List.setIfInBounds_toArray, List.set_cons_zero, List.set_cons_succ]
            refine wpAnyH_ready (rs := [26]) (by kernel_rfl) (by simp) ?_
            refine AllReadyH.cons (o := { dst := none, op := Op.store 40 (Operand.tmp 186) (Operand.tmp 183), type := 0, pos := "zz_law_s3498b.go:72", after := _, guard := none }) rfl (fun K hK => ?_) AllReadyH.nil
            go_simp
            refine hK.out _ _ (unhide KS _ (((unhide HF4).mono (fun x hx => List.mem_cons_of_mem _ hx)).set (by simp) _ _)) (fun hHeld => ?_)
            clear hK K
            try simp only [Act.put, List.setIfInBounds_toArray, List.set_cons_zero, List.set_cons_succ]
            refine wpAnyH_done (by kernel_rfl) ?_ _
            have hnx := hide ((unhide hL).step hjN (unhide Hsn) (unhide Hset3) (unhide Hmo3) (unhide HF4) (unhide Hg4) (unhide Hown4))
            have hln : (pc.hear j).fresh.length = pc.fresh.length + 1 := by simp [PS.hear, unhide Hsn]
            clear HF4 Hown4 Hg4
            go_wp2_with fail
            refine ⟨⟨k + 1, by omega, rfl, .slice (some ⟨g, 0, none⟩) (pc.fresh.length + 1) cap, ?_, ?_⟩, by simp [intOf]; omega⟩
            · rw [unhide Hpn, hln]; first | rfl | simp
            · rw [unhide Hpn]; exact hnx
          · go_simp
            refine (zshared_any (X.id X.s) (X.id j) _ (hid _) (hid _)).mono ?_
            rintro e wz ⟨rfl, rfl⟩
            try (go_wp2_with fail)
            refine hK.out _ _ (unhide KS _ ((Fr.refl _ _).same ((Same.refl _).drew))) (fun hHeld => ?_)
            clear hK K
            try simp only [Act.put, List.setIfInBounds_toArray, List.set_cons_zero, List.set_cons_succ]
            refine wpAnyH_take (i := 20) (oi := { dst := some 181, op := Op.build 65 #[(0, Operand.tmp 167), (1, Operand.tmp 171), (2, Operand.tmp 180)], type := 65, pos := "zz_law_s3498b.go:72", after := _, guard := none }) rfl (by kernel_rfl) (by kernel_rfl) (by kernel_rfl) (fun _ _ _ h => h) (yields_build3 (by rfl) 65 0 1 2 (Operand.tmp 167) (Operand.tmp 171) (Operand.tmp 180) rfl (.int .i64 ((j : Nat) : Int)) (.float .f64 (X.cw j)) (.int .i64 ((shD (X.id X.s) (X.id j) : Nat) : Int)) rfl rfl rfl #[.int .i64 ((j : Nat) : Int), .float .f64 (X.cw j), .int .i64 ((shD (X.id X.s) (X.id j) : Nat) : Int)] (build65 ((j : Nat) : Int) (X.cw j) ((shD (X.id X.s) (X.id j) : Nat) : Int))) (by assumption) ?_
            try simp only [Act.put, List.setIfInBounds_toArray, List.set_cons_zero, List.set_cons_succ]
            refine wpAnyH_ready (rs := [5, 21]) (by kernel_rfl) (by simp) ?_
            refine AllReadyH.cons (o := { dst := some 166, op := Op.load 40 (Operand.tmp 165), type := 40, pos := "zz_law_s3498b.go:72", after := _, guard := none }) rfl (fun K hK => ?_) (AllReadyH.cons (o := { dst := some 182, op := Op.buildSlice 40 1 #[(0, Operand.tmp 181)], type := 40, pos := "zz_law_s3498b.go:72", after := _, guard := none }) rfl (fun K hK => ?_) AllReadyH.nil)
            · have cL : w3.drew.cell? ⟨X.jb, 0, none⟩ = some v := unhide C0
              go_simp
              refine hK.out _ _ (unhide KS _ ((Fr.refl _ _).same ((Same.refl _).drew))) (fun hHeld => ?_)
              clear hK K
              try simp only [Act.put, List.setIfInBounds_toArray, List.set_cons_zero, List.set_cons_succ]
              refine wpAnyH_ready (rs := [21]) (by kernel_rfl) (by simp) ?_
              refine AllReadyH.cons (o := { dst := some 182, op := Op.buildSlice 40 1 #[(0, Operand.tmp 181)], type := 40, pos := "zz_law_s3498b.go:72", after := _, guard := none }) rfl (fun K hK => ?_) AllReadyH.nil
              go_simp
              refine hK.out _ _ (unhide KS _ (((Fr.refl _ _).same ((Same.refl _).drew)).alloc _)) (fun hHeld => ?_)
              clear hK K
              try simp only [Act.put, List.setIfInBounds_toArray, List.set_cons_zero, List.set_cons_succ]
              refine wpAnyH_ready (rs := [22]) (by kernel_rfl) (by simp) ?_
              refine AllReadyH.cons (o := { dst := some 183, op := Op.call { callee := Callee.builtin Builtin.append, args := #[Operand.tmp 166, Operand.tmp 182], argTypes := #[40, 40] }, type := 40, pos := "zz_law_s3498b.go:72", after := _, guard := none }) rfl (fun K hK => ?_) AllReadyH.nil
              rw [if_pos (by rfl)]
              refine wp_append_lies _ _ _ _ rfl 0 65 i5 _ 3 24 Ybaz.underlying40 hi5 hz5 hsz5 hby5 rfl (by omega) v pc.fresh.length (hdsL X.cw X.id X.s pc.fresh) (by simp [Act.eval]; done) (own_fr (unhide HO3) (((Fr.refl _ []).same ((Same.refl _).drew)).alloc _) (by simp)) ⟨w3.heap.size, 0, none⟩ 1 1 (hdL X.cw X.id X.s j) (by simp [Act.eval]; done) rfl ?_ ?_ (by omega) (by have : maxLen = 9223372036854775807 := rfl; omega) (by omega) (Nat.zero_le _) (w3.heap.size + 1) (by simp) ?_
              · intro i u hi
                have := rangeAt_new w3.drew #[.int .i64 ((j : Nat) : Int), .float .f64 (X.cw j), .int .i64 ((shD (X.id X.s) (X.id j) : Nat) : Int)] 65 _ rfl i u hi
                rw [Nat.zero_add] at this
                rw [Addr.add_mid, Nat.zero_add]
                exact this
              · intro u hu
                simp [hdL] at hu
                rcases hu with rfl | rfl | rfl <;> rfl
              intro g cap w4 hown4 hgrow4 hat4 hlt4
              try simp only [Act.put, List.setIfInBounds_toArray, List.set_cons_zero, List.set_cons_succ]
              have hF4 : Fr w3 w4 (ob v) := (((Fr.refl _ _).same ((Same.refl _).drew)).alloc _).trans (.of_grown hgrow4)
              have hg4 : g ∈ ob v ∨ w3.heap.size ≤ g := by
                rcases hat4 with h | h
                · left; simp [ob, h]
                · right; rw [h]; omega
              refine hK.out _ _ (unhide KS _ (hF4.mono (fun x hx => List.mem_cons_of_mem _ hx))) (fun hHeld => ?_)
              clear hK K
              try simp only [Act.put, List.setIfInBounds_toArray, List.set_cons_zero, List.set_cons_succ]
              have d0 : w4.cell? ⟨X.jb, 0, none⟩ = some v := hF4.cell (unhide C0) (unhide HJV)
              have z0 : w4.frozen? ⟨X.jb, 0, none⟩ = false := (World.frozen?_of_block (a := ⟨X.jb, 0, none⟩) (hF4.block X.jb (unhide HRJ).lt (unhide HJV))).trans ((unhide HRJ).frozen 0)
              have HF4 := hide hF4
              have Hown4 := hide hown4
              have Hg4 := hide hg4
              clear hown4 hgrow4 hat4 hF4 hg4
              refine wpAnyH_take (i := 23) (oi := { dst := some 184, op := Op.nilCheck (Operand.tmp 161), type := 0, pos := "zz_law_s3498b.go:72", after := _, guard := none }) (v := ?_) rfl (by kernel_rfl) (by kernel_rfl) (by kernel_rfl) (fun _ _ _ h => h) (Or.inl ⟨by rfl, ?_⟩) (by assumption) ?_
              rotate_left 1
              · (intro w hSw; (try dsimp only at hSw); go_simp <;> with_reducible rfl)
              try simp only [Act.put, List.setIfInBounds_toArray, List.set_cons_zero, List.set_cons_succ]
              refine wpAnyH_take (i := 24) (oi := { dst := some 185, op := Op.fieldAddr 47 (Operand.tmp 184) 0, type := 0, pos := "zz_law_s3498b.go:72", after := _, guard := none }) (v := ?_) rfl (by kernel_rfl) (by kernel_rfl) (by kernel_rfl) (fun _ _ _ h => h) (Or.inl ⟨by rfl, ?_⟩) (by assumption) ?_
              rotate_left 1
              · (intro w hSw; (try dsimp only at hSw); go_simp <;> with_reducible rfl)
              try simp only [Act.put, List.setIfInBounds_toArray, List.set_cons_zero, List.set_cons_succ]
              refine wpAnyH_take (i := 25) (oi := { dst := some 186, op := Op.fieldAddr 43 (Operand.tmp 185) 0, type := 0, pos := "zz_law_s3498b.go:72", after := _, guard := none }) (v := ?_) rfl (by kernel_rfl) (by kernel_rfl) (by kernel_rfl) (fun _ _ _ h => h) (Or.inl ⟨by rfl, ?_⟩) (by assumption) ?_
              rotate_left 1
              · (intro w hSw; (try dsimp only at hSw); go_simp <;> with_reducible rfl)
              try simp only [Act.put, List.setIfInBounds_toArray, List.set_cons_zero, List.set_cons_succ]
              refine wpAnyH_ready (rs := [26]) (by kernel_rfl) (by simp) ?_
              refine AllReadyH.cons (o := { dst := none, op := Op.store 40 (Operand.tmp 186) (Operand.tmp 183), type := 0, pos := "zz_law_s3498b.go:72", after := _, guard := none }) rfl (fun K hK => ?_) AllReadyH.nil
              go_simp
              refine hK.out _ _ (unhide KS _ (((unhide HF4).mono (fun x hx => List.mem_cons_of_mem _ hx)).set (by simp) _ _)) (fun hHeld => ?_)
              clear hK K
              try simp only [Act.put, List.setIfInBounds_toArray, List.set_cons_zero, List.set_cons_succ]
              refine wpAnyH_done (by kernel_rfl) ?_ _
              have hnx := hide ((unhide hL).step hjN (unhide Hsn) (unhide Hset3) (unhide Hmo3) (unhide HF4) (unhide Hg4) (unhide Hown4))
              have hln : (pc.hear j).fresh.length = pc.fresh.length + 1 := by simp [PS.hear, unhide Hsn]
              clear HF4 Hown4 Hg4
              go_wp2_with fail
              refine ⟨⟨k + 1, by omega, rfl, .slice (some ⟨g, 0, none⟩) (pc.fresh.length + 1) cap, ?_, ?_⟩, by simp [intOf]; omega⟩
              · rw [unhide Hpn, hln]; first | rfl | simp
              · rw [unhide Hpn]; exact hnx
            · go_simp
              refine hK.out _ _ (unhide KS _ (((Fr.refl _ _).same ((Same.refl _).drew)).alloc _)) (fun hHeld => ?_)
              clear hK K
              try simp only [Act.put, List.setIfInBounds_toArray, List.set_cons_zero, List.set_cons_succ]
              refine wpAnyH_ready (rs := [5]) (by kernel_rfl) (by simp) ?_
              refine AllReadyH.cons (o := { dst := some 166, op := Op.load 40 (Operand.tmp 165), type := 40, pos := "zz_law_s3498b.go:72", after := _, guard := none }) rfl (fun K hK => ?_) AllReadyH.nil
              have cL : (w3.drew.alloc (.cells #[.int .i64 ((j : Nat) : Int), .float .f64 (X.cw j), .int .i64 ((shD (X.id X.s) (X.id j) : Nat) : Int)] 65)).cell? ⟨X.jb, 0, none⟩ = some v := (((Fr.refl _ []).same ((Same.refl _).drew)).alloc _).cell (unhide C0) (by simp)
              have cL0 := unhide C0
              have cL1 : (w3.alloc (.cells #[.int .i64 ((j : Nat) : Int), .float .f64 (X.cw j), .int .i64 ((shD (X.id X.s) (X.id j) : Nat) : Int)] 65)).cell? ⟨X.jb, 0, none⟩ = some v := cL
              go_simp
              refine hK.out _ _ (unhide KS _ (((Fr.refl _ _).same ((Same.refl _).drew)).alloc _)) (fun hHeld => ?_)
              clear hK K
              try simp only [Act.put, List.setIfInBounds_toArray, List.set_cons_zero, List.set_cons_succ]
              refine wpAnyH_ready (rs := [22]) (by kernel_rfl) (by simp) ?_
              refine AllReadyH.cons (o := { dst := some 183, op := Op.call { callee := Callee.builtin Builtin.append, args := #[Operand.tmp 166, Operand.tmp 182], argTypes := #[40, 40] }, type := 40, pos := "zz_law_s3498b.go:72", after := _, guard := none }) rfl (fun K hK => ?_) AllReadyH.nil
              rw [if_pos (by rfl)]
              refine wp_append_lies _ _ _ _ rfl 0 65 i5 _ 3 24 Ybaz.underlying40 hi5 hz5 hsz5 hby5 rfl (by omega) v pc.fresh.length (hdsL X.cw X.id X.s pc.fresh) (by simp [Act.eval]; done) (own_fr (unhide HO3) (((Fr.refl _ []).same ((Same.refl _).drew)).alloc _) (by simp)) ⟨w3.heap.size, 0, none⟩ 1 1 (hdL X.cw X.id X.s j) (by simp [Act.eval]; done) rfl ?_ ?_ (by omega) (by have : maxLen = 9223372036854775807 := rfl; omega) (by omega) (Nat.zero_le _) (w3.heap.size + 1) (by simp) ?_
              · intro i u hi
                have := rangeAt_new w3.drew #[.int .i64 ((j : Nat) : Int), .float .f64 (X.cw j), .int .i64 ((shD (X.id X.s) (X.id j) : Nat) : Int)] 65 _ rfl i u hi
                rw [Nat.zero_add] at this
                rw [Addr.add_mid, Nat.zero_add]
                exact this
              · intro u hu
                simp [hdL] at hu
                rcases hu with rfl | rfl | rfl <;> rfl
              intro g cap w4 hown4 hgrow4 hat4 hlt4
              try simp only [Act.put, List.setIfInBounds_toArray, List.set_cons_zero, List.set_cons_succ]
              have hF4 : Fr w3 w4 (ob v) := (((Fr.refl _ _).same ((Same.refl _).drew)).alloc _).trans (.of_grown hgrow4)
              have hg4 : g ∈ ob v ∨ w3.heap.size ≤ g := by
                rcases hat4 with h | h
                · left; simp [ob, h]
                · right; rw [h]; omega
              refine hK.out _ _ (unhide KS _ (hF4.mono (fun x hx => List.mem_cons_of_mem _ hx))) (fun hHeld => ?_)
              clear hK K
              try simp only [Act.put, List.setIfInBounds_toArray, List.set_cons_zero, List.set_cons_succ]
              have d0 : w4.cell? ⟨X.jb, 0, none⟩ = some v := hF4.cell (unhide C0) (unhide HJV)
              have z0 : w4.frozen? ⟨X.jb, 0, none⟩ = false := (World.frozen?_of_block (a := ⟨X.jb, 0, none⟩) (hF4.block X.jb (unhide HRJ).lt (unhide HJV))).trans ((unhide HRJ).frozen 0)
              have HF4 := hide hF4
              have Hown4 := hide hown4
              have Hg4 := hide hg4
              clear hown4 hgrow4 hat4 hF4 hg4
              refine wpAnyH_take (i := 23) (oi := { dst := some 184, op := Op.nilCheck (Operand.tmp 161), type := 0, pos := "zz_law_s3498b.go:72", after := _, guard := none }) (v := ?_) rfl (by kernel_rfl) (by kernel_rfl) (by kernel_rfl) (fun _ _ _ h => h) (Or.inl ⟨by rfl, ?_⟩) (by assumption) ?_
              rotate_left 1
              · (intro w hSw; (try dsimp only at hSw); go_simp <;> with_reducible rfl)
              try simp only [Act.put, List.setIfInBounds_toArray, List.set_cons_zero, List.set_cons_succ]
              refine wpAnyH_take (i := 24) (oi := { dst := some 185, op := Op.fieldAddr 47 (Operand.tmp 184) 0, type := 0, pos := "zz_law_s3498b.go:72", after := _, guard := none }) (v := ?_) rfl (by kernel_rfl) (by kernel_rfl) (by kernel_rfl) (fun _ _ _ h => h) (Or.inl ⟨by rfl, ?_⟩) (by assumption) ?_
              rotate_left 1
              · (intro w hSw; (try dsimp only at hSw); go_simp <;> with_reducible rfl)
              try simp only [Act.put, List.setIfInBounds_toArray, List.set_cons_zero, List.set_cons_succ]
              refine wpAnyH_take (i := 25) (oi := { dst := some 186, op := Op.fieldAddr 43 (Operand.tmp 185) 0, type := 0, pos := "zz_law_s3498b.go:72", after := _, guard := none }) (v := ?_) rfl (by kernel_rfl) (by kernel_rfl) (by kernel_rfl) (fun _ _ _ h => h) (Or.inl ⟨by rfl, ?_⟩) (by assumption) ?_
              rotate_left 1
              · (intro w hSw; (try dsimp only at hSw); go_simp <;> with_reducible rfl)
              try simp only [Act.put, List.setIfInBounds_toArray, List.set_cons_zero, List.set_cons_succ]
              refine wpAnyH_ready (rs := [26]) (by kernel_rfl) (by simp) ?_
              refine AllReadyH.cons (o := { dst := none, op := Op.store 40 (Operand.tmp 186) (Operand.tmp 183), type := 0, pos := "zz_law_s3498b.go:72", after := _, guard := none }) rfl (fun K hK => ?_) AllReadyH.nil
              go_simp
              refine hK.out _ _ (unhide KS _ (((unhide HF4).mono (fun x hx => List.mem_cons_of_mem _ hx)).set (by simp) _ _)) (fun hHeld => ?_)
              clear hK K
              try simp only [Act.put, List.setIfInBounds_toArray, List.set_cons_zero, List.set_cons_succ]
              refine wpAnyH_done (by kernel_rfl) ?_ _
              have hnx := hide ((unhide hL).step hjN (unhide Hsn) (unhide Hset3) (unhide Hmo3) (unhide HF4) (unhide Hg4) (unhide Hown4))
              have hln : (pc.hear j).fresh.length = pc.fresh.length + 1 := by simp [PS.hear, unhide Hsn]
              clear HF4 Hown4 Hg4
              go_wp2_with fail
              refine ⟨⟨k + 1, by omega, rfl, .slice (some ⟨g, 0, none⟩) (pc.fresh.length + 1) cap, ?_, ?_⟩, by simp [intOf]; omega⟩
              · rw [unhide Hpn, hln]; first | rfl | simp
              · rw [unhide Hpn]; exact hnx

        · have e3 : pc.hear j = pc := by simp [PS.hear, hsn]
          rw [hsn] at r1
          have He3 := hide e3
          clear hsn e3
          go_wp2_with fail
          refine ⟨⟨k + 1, by omega, rfl, v, ?_, ?_⟩, by simp [intOf]; omega⟩
          · rw [unhide Hpn, unhide He3]
          · rw [unhide Hpn, unhide He3]; exact (unhide hL).more
      · obtain rfl : k = pn := by omega
        go_wp2_with fail
        go_meet
        exact ⟨v, rfl, hL⟩
  case rest =>
    obtain ⟨v, rfl, hL⟩ := hcut
    exact (by assumption : ∀ (a : Act) (w0 : World), Code.wp Ybaz.prog tail17 (bodyPost Ybaz.prog Ybaz.f5 (BPost w)) a w0 → _) _ _ (b_t17 ((unhide HB).pre (unhide hL) hpn (unhide Hjf) (Nat.mod_lt snr hN0) (pp_nd X.N hN0 pv pn)) rfl rfl hmn hsnr (unhide Hmg) hmv hbn (unhide Hbp) hxn hyc)


end Go.Proofs.YbulkbtkoGreatFmt

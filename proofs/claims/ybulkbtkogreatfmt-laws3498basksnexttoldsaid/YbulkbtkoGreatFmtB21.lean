import Derived.Test.YbulkbtkoGreatFmtBn
namespace Go.Proofs.YbulkbtkoGreatFmt
open Go.RowKit
set_option linter.unusedVariables false
set_option linter.unusedSimpArgs false

theorem inf78 : ∃ i, Ybaz.prog.info? 78 = some i ∧ i.zero = some (.agg #[.int .i64 0, .float .f64 0]) ∧ i.size = 2 ∧ i.bytes = 16 := by
  have h : (Ybaz.prog.info? 78).map (fun i => (i.zero, i.size, i.bytes)) = some (some (.agg #[.int .i64 0, .float .f64 0]), 2, 16) := by kernel_rfl
  obtain ⟨i, hi, hz⟩ := Option.map_eq_some_iff.1 h
  simp only [Prod.mk.injEq] at hz
  exact ⟨i, hi, hz.1, hz.2.1, hz.2.2⟩
theorem build78 (j : Int) (c : Nat) (w : World) : (Instr.build 78 #[(0, .int .i64 j), (1, .float .f64 c)]).run Ybaz.prog w = .ok (.agg #[.int .i64 j, .float .f64 c]) w := by
  refine run_build w 78 _ _ ?_
  kernel_rfl
def blL (bf bw : Nat → Nat) (k : Nat) : List Value := (List.range k).flatMap fun i => [.int .i64 ((bf i : Nat) : Int), .float .f64 (bw i)]
theorem blL_succ (bf bw : Nat → Nat) (k : Nat) : blL bf bw (k + 1) = blL bf bw k ++ [.int .i64 ((bf k : Nat) : Int), .float .f64 (bw k)] := by
  simp [blL, List.range_succ]
theorem blL_len (bf bw : Nat → Nat) : ∀ k, (blL bf bw k).length = 2 * k
  | 0 => rfl
  | k + 1 => by rw [blL_succ, List.length_append, blL_len bf bw k]; simp; omega
theorem blL_at (bf bw : Nat → Nat) : ∀ n i, i < n → (blL bf bw n)[2 * i]? = some (.int .i64 ((bf i : Nat) : Int)) ∧ (blL bf bw n)[2 * i + 1]? = some (.float .f64 (bw i))
  | 0, i, h => absurd h (by omega)
  | n + 1, i, h => by
    rw [blL_succ]
    by_cases c : i < n
    · rw [List.getElem?_append_left (by rw [blL_len]; omega), List.getElem?_append_left (by rw [blL_len]; omega)]
      exact blL_at bf bw n i c
    · have e : i = n := by omega
      subst e
      rw [List.getElem?_append_right (by rw [blL_len]; omega), List.getElem?_append_right (by rw [blL_len]; omega), blL_len]
      rw [show 2 * i - 2 * i = 0 by omega, show 2 * i + 1 - 2 * i = 1 by omega]
      exact ⟨rfl, rfl⟩
/-- The backpointers so far. -/
structure LB (wr wq : World) (bv : Value) (bf bw : Nat → Nat) (k : Nat) : Prop where
  own : wq.ownsRow 0 78 2 bv k (blL bf bw k)
  bel : Below wr.heap.size wr wq
  fz : ∀ g ∈ ob bv, wr.heap.size ≤ g
theorem LB.step {wr wq wX w3 : World} {bv : Value} {bf bw : Nat → Nat} {k g cap : Nat} (h : LB wr wq bv bf bw k) (hX : Below wq.heap.size wq wX) (hF : Fr wX w3 (ob bv)) (hg : g ∈ ob bv ∨ wX.heap.size ≤ g)
    (hown : w3.ownsRow 0 78 2 (.slice (some ⟨g, 0, none⟩) (k + 1) cap) (k + 1) (blL bf bw k ++ [.int .i64 ((bf k : Nat) : Int), .float .f64 (bw k)])) : LB wr w3 (.slice (some ⟨g, 0, none⟩) (k + 1) cap) bf bw (k + 1) := by
  have hb : Below wr.heap.size wr wX := h.bel.trans (hX.mono h.bel.size)
  refine ⟨by rw [blL_succ]; exact hown, hb.trans (hF.below hb.size h.fz), fun x hx => ?_⟩
  have : x = g := by simpa [ob, Value.ownBlock] using hx
  subst this
  rcases hg with h1 | h1
  · exact h.fz x h1
  · have := hb.size; omega

set_option maxHeartbeats 4000000 in
set_option maxRecDepth 100000 in
theorem b_t21 {w wr : World} {X : Cx} {ab m0 m1 zb sb lb : Nat} {seen0 : Nat → Bool} {l : List Nat} {ed : Int} {nsb nn ncap bn bpc : Nat} {nf xn : Nat → Nat} {yc : Nat → Int} {bpa : Option Addr} (hB : BN w wr X ab m0 m1 zb sb lb seen0 l ed (X.r)) (r518 : X.r 518 = .pointer (some ⟨X.jb, 0, none⟩))
    (nown : wr.ownsRow 0 3 1 (.slice (some ⟨nsb, 0, none⟩) nn ncap) nn (intsL ((List.range nn).map nf))) (nn0 : 0 < nn) (nn1 : nn ≤ 301) (nfN : ∀ i, nf i < X.N) (nf0 : nf 0 = X.snd) (far1 : nsb ∉ [X.nb, X.jb, X.hb, X.qb, X.ib, X.cb, X.vb, ab, m0, m1, zb, sb, lb] ∧ nsb ∉ ob X.v0)
    (hbn : bn ≤ 300) (hbp : Bps w bpa bn xn yc) (hxn : ∀ i, xn i < 256) (hyc : ∀ i, -128 ≤ yc i ∧ yc i ≤ 127) {q0 q1 q2 q3 q4 q5 q7 q8 q9 q10 q11 q12 q13 q14 q18 q19 q21 q23 q24 q25 q26 q31 q32 q33 q36 q37 q38 q39 q40 q41 q42 q43 q44 q45 q46 q47 q48 q49 q50 q51 q52 q53 q54 q55 q56 q57 q58 q59 q60 q61 q62 q63 q64 q65 q66 q67 q68 q69 q70 q71 q72 q73 q74 q75 q76 q77 q78 q79 q80 q81 q82 q83 q84 q85 q86 q87 q88 q89 q90 q91 q92 q93 q94 q95 q96 q97 q98 q99 q100 q101 q102 q103 q104 q105 q106 q107 q108 q109 q110 q111 q112 q113 q114 q115 q116 q117 q118 q119 q120 q121 q122 q123 q124 q125 q126 q127 q128 q129 q130 q131 q132 q133 q134 q135 q136 q137 q138 q139 q140 q141 q142 q143 q144 q145 q146 q147 q148 q149 q150 q151 q152 q153 q154 q155 q156 q157 q158 q159 q160 q161 q162 q163 q164 q165 q166 q167 q168 q169 q170 q171 q172 q173 q174 q175 q176 q177 q178 q179 q180 q181 q182 q183 q184 q185 q186 q187 q188 q189 q190 q191 q192 q193 q194 q195 q196 q197 q198 q199 q200 q201 q202 q203 q204 q205 q206 q207 q208 q209 q210 q211 q212 q213 q214 q215 q216 q217 q218 q219 q220 q221 q222 q223 q224 q225 q226 q227 q228 q229 q230 q231 q232 q233 q234 q235 q236 q237 q238 q239 q240 q241 q242 q243 q244 q245 q246 q247 q248 q249 q250 q251 q252 q253 q254 q255 q256 q257 q258 q259 q260 q261 q262 q263 q264 q265 q266 q267 q268 q269 q270 q271 q272 q273 q274 q275 q276 q277 q278 q279 q280 q281 q282 q283 q284 q285 q286 q287 q288 q289 q290 q291 q292 q293 q294 q295 q296 q297 q298 q299 q300 q301 q302 q303 q304 q305 q306 q307 q308 q309 q310 q311 q312 q313 q314 q315 q316 q317 q318 q319 q320 q321 q322 q323 q324 q325 q326 q327 q328 q329 q330 q331 q332 q333 : Value} :
    Code.wp Ybaz.prog tail21 (bodyPost Ybaz.prog Ybaz.f5 (BPost w)) ⟨#[q0, q1, q2, q3, q4, q5, .slice bpa bn bpc, q7, q8, q9, q10, q11, q12, q13, q14, .int .i64 ((X.N : Nat) : Int), .slice (some ⟨X.ib, 0, none⟩) X.N X.N, .pointer (some ⟨X.vb, 0, none⟩), q18, q19, .int .i64 ((X.s : Nat) : Int), q21, .slice (some ⟨lb, 0, none⟩) X.N X.N, q23, q24, q25, q26, .pointer (some ⟨X.nb, 0, none⟩), .pointer (some ⟨X.jb, 0, none⟩), .slice (some ⟨sb, 0, none⟩) X.N X.N, .int .i64 ((X.l0.length : Nat) : Int), q31, q32, q33, .int .i64 ((X.snd : Nat) : Int), .slice (some ⟨nsb, 0, none⟩) nn ncap, q36, q37, q38, q39, q40, q41, q42, q43, q44, q45, q46, q47, q48, q49, q50, q51, q52, q53, q54, q55, q56, q57, q58, q59, q60, q61, q62, q63, q64, q65, q66, q67, q68, q69, q70, q71, q72, q73, q74, q75, q76, q77, q78, q79, q80, q81, q82, q83, q84, q85, q86, q87, q88, q89, q90, q91, q92, q93, q94, q95, q96, q97, q98, q99, q100, q101, q102, q103, q104, q105, q106, q107, q108, q109, q110, q111, q112, q113, q114, q115, q116, q117, q118, q119, q120, q121, q122, q123, q124, q125, q126, q127, q128, q129, q130, q131, q132, q133, q134, q135, q136, q137, q138, q139, q140, q141, q142, q143, q144, q145, q146, q147, q148, q149, q150, q151, q152, q153, q154, q155, q156, q157, q158, q159, q160, q161, q162, q163, q164, q165, q166, q167, q168, q169, q170, q171, q172, q173, q174, q175, q176, q177, q178, q179, q180, q181, q182, q183, q184, q185, q186, q187, q188, q189, q190, q191, q192, q193, q194, q195, q196, q197, q198, q199, q200, q201, q202, q203, q204, q205, q206, q207, q208, q209, q210, q211, q212, q213, q214, q215, q216, q217, q218, q219, q220, q221, q222, q223, q224, q225, q226, q227, q228, q229, q230, q231, q232, q233, q234, q235, q236, q237, q238, q239, q240, q241, q242, q243, q244, q245, q246, q247, q248, q249, q250, q251, q252, q253, q254, q255, q256, q257, q258, q259, q260, q261, q262, q263, q264, q265, q266, q267, q268, q269, q270, q271, q272, q273, q274, q275, q276, q277, q278, q279, q280, q281, q282, q283, q284, q285, q286, q287, q288, q289, q290, q291, q292, q293, q294, q295, q296, q297, q298, q299, q300, q301, q302, q303, q304, q305, q306, q307, q308, q309, q310, q311, q312, q313, q314, q315, q316, q317, q318, q319, q320, q321, q322, q323, q324, q325, q326, q327, q328, q329, q330, q331, q332, q333], []⟩ wr := by
  have hN := hB.hN
  have hN0 : 0 < X.N := by have := hB.hs; omega
  have HB := hide hB
  have Hr := hide r518
  have Hn := hide nown
  have Hf := hide far1
  have Hbp := hide hbp
  clear hB r518 nown far1 hbp
  conv => arg 2; simp only [tail21, Ybaz.f5, Option.getD_some, sndSeq]
  go_upto_block 8 with fail
  go_cut [38] (fun s38 wq => Hid (LB wr wq s38 (fun i => xn i % X.N) (fun i => floatOfInt .f64 (yc i)) bn))
  case first =>
    go_wp2_with fail
    go_loopw [216, 38] (fun iv bv wq => ∃ i : Nat, i ≤ bn ∧ iv = .int .i64 (i : Int) ∧ Hid (LB wr wq bv (fun i => xn i % X.N) (fun i => floatOfInt .f64 (yc i)) i)) (fun iv _ _ => bn - (intOf iv).toNat)
    case atStart => exact ⟨0, by omega, rfl, ⟨rfl, .inl ⟨rfl, rfl⟩⟩, Below.refl _ _, fun g hg => by simp [ob, Value.ownBlock] at hg⟩
    case round =>
      obtain ⟨i, hi, rfl, hL⟩ := hrel
      by_cases hil : i < bn
      · rename World => wq
        obtain ⟨b, o, rfl, p0, p1⟩ := (unhide Hbp).at ((unhide HB).bel.trans ((unhide hL).bel.mono (unhide HB).bel.size)) hil
        have k0 : (0 : Int) ≤ (i : Int) := by omega
        have k1 : (i : Int) < (bn : Int) := by omega
        have hx1 := hxn i
        have hy1 := hyc i
        have hwrap : IntKind.i64.wrap ((xn i : Nat) : Int) = ((xn i : Nat) : Int) := by rw [IntKind.wrap_i64]; omega
        have nz : ¬ ((X.N : Int) = 0) := by omega
        have nz2 : ((X.N : Int) == 0) = false := by simp; omega
        go_upto_region 49 with fail
        obtain ⟨wX, hwX⟩ : ∃ wX, wX = wq.alloc (.cells #[.int .u8 ((xn i : Nat) : Int), .int .i8 (yc i)] 76) := ⟨_, rfl⟩
        have x0 : wX.cell? ⟨wq.heap.size, 0, none⟩ = some (.int .u8 ((xn i : Nat) : Int)) := by rw [hwX]; go_simp
        have x1 : wX.cell? ⟨wq.heap.size, 1, none⟩ = some (.int .i8 (yc i)) := by rw [hwX]; go_simp
        have hBX : Below wq.heap.size wq wX := by rw [hwX]; exact (Below.refl _ _).alloc (Nat.le_refl _) _
        have szX : wX.heap.size = wq.heap.size + 1 := by rw [hwX]; simp
        rw [← hwX]
        clear hwX p0 p1
        have HBX := hide hBX
        have hbv : Hid (wq.heap.size ∉ ob u38) := fun hm => by have := own_lt (unhide hL).own _ hm; omega
        obtain ⟨i5, hi5, hz5, hsz5, hby5⟩ := inf78
        clear hBX
        refine wp_region_held_drew (S := fun w' => w'.cell? ⟨wq.heap.size, 0, none⟩ = some (.int .u8 ((xn i : Nat) : Int)) ∧ w'.cell? ⟨wq.heap.size, 1, none⟩ = some (.int .i8 (yc i))) (by kernel_rfl) ⟨x0, x1⟩ (fun hHeld => ?_)
        refine wpAnyH_take (i := 0) (oi := { dst := some 220, op := Op.move (Operand.tmp 38), type := 35, pos := "zz_law_s3498b.go:84", after := _, guard := none }) (v := ?_) rfl (by kernel_rfl) (by kernel_rfl) (by kernel_rfl) (fun _ _ _ h => h) (Or.inl ⟨by rfl, ?_⟩) (by assumption) ?_
        rotate_left 1
        · (intro w hSw; (try dsimp only at hSw); go_simp <;> with_reducible rfl)
        try simp only [Act.put, List.setIfInBounds_toArray, List.set_cons_zero, List.set_cons_succ]
        refine wpAnyH_take (i := 1) (oi := { dst := some 221, op := Op.fieldAddr 76 (Operand.tmp 40) 0, type := 0, pos := "zz_law_s3498b.go:84", after := _, guard := none }) (v := ?_) rfl (by kernel_rfl) (by kernel_rfl) (by kernel_rfl) (fun _ _ _ h => h) (Or.inl ⟨by rfl, ?_⟩) (by assumption) ?_
        rotate_left 1
        · (intro w hSw; (try dsimp only at hSw); go_simp <;> with_reducible rfl)
        try simp only [Act.put, List.setIfInBounds_toArray, List.set_cons_zero, List.set_cons_succ]
        refine wpAnyH_take (i := 2) (oi := { dst := some 222, op := Op.load 5 (Operand.tmp 221), type := 5, pos := "zz_law_s3498b.go:84", after := _, guard := none }) (v := ?_) rfl (by kernel_rfl) (by kernel_rfl) (by kernel_rfl) (fun _ _ _ h => h) (Or.inl ⟨by rfl, ?_⟩) (by assumption) ?_
        rotate_left 1
        · (intro w hSw; (try dsimp only at hSw); go_simp <;> with_reducible rfl)
        try simp only [Act.put, List.setIfInBounds_toArray, List.set_cons_zero, List.set_cons_succ]
        refine wpAnyH_take (i := 3) (oi := { dst := some 223, op := Op.convert 5 3 (Operand.tmp 222), type := 3, pos := "zz_law_s3498b.go:84", after := _, guard := none }) (v := .int .i64 ((xn i : Nat) : Int)) rfl (by kernel_rfl) (by kernel_rfl) (by kernel_rfl) (fun _ _ _ h => h) (Or.inl ⟨by rfl, ?_⟩) (by assumption) ?_
        · (intro w hSw; go_simp)
        try simp only [Act.put, List.setIfInBounds_toArray, List.set_cons_zero, List.set_cons_succ]
        refine wpAnyH_take (i := 4) (oi := { dst := some 224, op := Op.move (Operand.tmp 15), type := 3, pos := "zz_law_s3498b.go:84", after := _, guard := none }) (v := ?_) rfl (by kernel_rfl) (by kernel_rfl) (by kernel_rfl) (fun _ _ _ h => h) (Or.inl ⟨by rfl, ?_⟩) (by assumption) ?_
        rotate_left 1
        · (intro w hSw; (try dsimp only at hSw); go_simp <;> with_reducible rfl)
        try simp only [Act.put, List.setIfInBounds_toArray, List.set_cons_zero, List.set_cons_succ]
        refine wpAnyH_take (i := 5) (oi := { dst := some 225, op := Op.binOp BinOp.rem 3 (Operand.tmp 223) (Operand.tmp 224) 3, type := 3, pos := "zz_law_s3498b.go:84", after := _, guard := none }) (v := .int .i64 ((xn i % X.N : Nat) : Int)) rfl (by kernel_rfl) (by kernel_rfl) (by kernel_rfl) (fun _ _ _ h => h) (Or.inl ⟨by rfl, ?_⟩) (by assumption) ?_
        · (intro w hSw; go_simp; rw [if_neg (show ¬ X.N = 0 by omega)]; first | rfl | (rw [Int.ofNat_tmod]))
        try simp only [Act.put, List.setIfInBounds_toArray, List.set_cons_zero, List.set_cons_succ]
        refine wpAnyH_take (i := 6) (oi := { dst := some 226, op := Op.fieldAddr 76 (Operand.tmp 40) 1, type := 0, pos := "zz_law_s3498b.go:84", after := _, guard := none }) (v := ?_) rfl (by kernel_rfl) (by kernel_rfl) (by kernel_rfl) (fun _ _ _ h => h) (Or.inl ⟨by rfl, ?_⟩) (by assumption) ?_
        rotate_left 1
        · (intro w hSw; (try dsimp only at hSw); go_simp <;> with_reducible rfl)
        try simp only [Act.put, List.setIfInBounds_toArray, List.set_cons_zero, List.set_cons_succ]
        refine wpAnyH_take (i := 7) (oi := { dst := some 227, op := Op.load 74 (Operand.tmp 226), type := 74, pos := "zz_law_s3498b.go:84", after := _, guard := none }) (v := ?_) rfl (by kernel_rfl) (by kernel_rfl) (by kernel_rfl) (fun _ _ _ h => h) (Or.inl ⟨by rfl, ?_⟩) (by assumption) ?_
        rotate_left 1
        · (intro w hSw; (try dsimp only at hSw); go_simp <;> with_reducible rfl)
        try simp only [Act.put, List.setIfInBounds_toArray, List.set_cons_zero, List.set_cons_succ]
        refine wpAnyH_take (i := 8) (oi := { dst := some 228, op := Op.convert 74 51 (Operand.tmp 227), type := 51, pos := "zz_law_s3498b.go:84", after := _, guard := none }) (v := ?_) rfl (by kernel_rfl) (by kernel_rfl) (by kernel_rfl) (fun _ _ _ h => h) (Or.inl ⟨by rfl, ?_⟩) (by assumption) ?_
        rotate_left 1
        · (intro w hSw; (try dsimp only at hSw); go_simp <;> with_reducible rfl)
        try simp only [Act.put, List.setIfInBounds_toArray, List.set_cons_zero, List.set_cons_succ]
        refine wpAnyH_take (i := 9) (oi := { dst := some 229, op := Op.build 78 #[(0, Operand.tmp 225), (1, Operand.tmp 228)], type := 78, pos := "zz_law_s3498b.go:84", after := _, guard := none }) rfl (by kernel_rfl) (by kernel_rfl) (by kernel_rfl) (fun _ _ _ h => h) (yields_build2 (by rfl) 78 0 1 (Operand.tmp 225) (Operand.tmp 228) rfl (.int .i64 ((xn i % X.N : Nat) : Int)) (.float .f64 (floatOfInt .f64 (yc i))) rfl rfl #[.int .i64 ((xn i % X.N : Nat) : Int), .float .f64 (floatOfInt .f64 (yc i))] (build78 _ _)) (by assumption) ?_
        try simp only [Act.put, List.setIfInBounds_toArray, List.set_cons_zero, List.set_cons_succ]
        have KS : ∀ w', Fr wX w' (ob u38) → w'.cell? ⟨wq.heap.size, 0, none⟩ = some (.int .u8 ((xn i : Nat) : Int)) ∧ w'.cell? ⟨wq.heap.size, 1, none⟩ = some (.int .i8 (yc i)) := fun w' hf => ⟨hf.cell x0 (unhide hbv), hf.cell x1 (unhide hbv)⟩
        have HKS := hide KS
        clear KS
        refine wpAnyH_ready (rs := [10]) (by kernel_rfl) (by simp) ?_
        refine AllReadyH.cons (o := { dst := some 230, op := Op.buildSlice 35 1 #[(0, Operand.tmp 229)], type := 35, pos := "zz_law_s3498b.go:84", after := _, guard := none }) rfl (fun K hK => ?_) AllReadyH.nil
        go_simp
        refine hK.out _ _ (unhide HKS _ (((Fr.refl _ _).same ((Same.refl _).drew)).alloc _)) (fun hHeld => ?_)
        clear hK K
        try simp only [Act.put, List.setIfInBounds_toArray, List.set_cons_zero, List.set_cons_succ]
        refine wpAnyH_ready (rs := [11]) (by kernel_rfl) (by simp) ?_
        refine AllReadyH.cons (o := { dst := some 231, op := Op.call { callee := Callee.builtin Builtin.append, args := #[Operand.tmp 220, Operand.tmp 230], argTypes := #[35, 35] }, type := 35, pos := "zz_law_s3498b.go:84", after := _, guard := none }) rfl (fun K hK => ?_) AllReadyH.nil
        rw [if_pos (by rfl)]
        refine wp_append_lies _ _ _ _ rfl 0 78 i5 _ 2 16 Ybaz.underlying35 hi5 hz5 hsz5 hby5 rfl (by omega) u38 i (blL (fun i => xn i % X.N) (fun i => floatOfInt .f64 (yc i)) i) rfl (own_fr (own_fr (unhide hL).own (Fr.of_below (S := []) (unhide HBX)) (by simp)) (((Fr.refl _ []).same ((Same.refl _).drew)).alloc _) (by simp)) ⟨wX.drew.heap.size, 0, none⟩ 1 1 [.int .i64 ((xn i % X.N : Nat) : Int), .float .f64 (floatOfInt .f64 (yc i))] (by simp [Act.eval]; done) rfl ?_ ?_ (by omega) (by have : maxLen = 9223372036854775807 := rfl; omega) (by omega) (Nat.zero_le _) (wX.drew.heap.size + 1) (by simp) ?_
        · intro i2 u hi2
          have := rangeAt_new wX.drew #[.int .i64 ((xn i % X.N : Nat) : Int), .float .f64 (floatOfInt .f64 (yc i))] 78 _ rfl i2 u hi2
          rw [Nat.zero_add] at this
          rw [Addr.add_mid, Nat.zero_add]
          exact this
        · intro u hu
          simp at hu
          rcases hu with rfl | rfl <;> rfl
        intro g cap w3 hown3 hgrow3 hat3 hlt3
        try simp only [Act.put, List.setIfInBounds_toArray, List.set_cons_zero, List.set_cons_succ]
        have hF3 : Fr wX w3 (ob u38) := (((Fr.refl _ _).same ((Same.refl _).drew)).alloc _).trans (.of_grown hgrow3)
        have hg3 : g ∈ ob u38 ∨ wX.heap.size ≤ g := by
          rcases hat3 with h | h
          · left; simp [ob, h]
          · right; rw [h]; show wX.heap.size ≤ wX.heap.size + 1; omega
        refine hK.out _ _ (unhide HKS _ hF3) (fun hHeld => ?_)
        clear hK K
        try simp only [Act.put, List.setIfInBounds_toArray, List.set_cons_zero, List.set_cons_succ]
        refine wpAnyH_take (i := 12) (oi := { dst := some 38, op := Op.assign (Operand.tmp 231), type := 35, pos := "zz_law_s3498b.go:84", after := _, guard := none }) (v := ?_) rfl (by kernel_rfl) (by kernel_rfl) (by kernel_rfl) (fun _ _ _ h => h) (Or.inl ⟨by rfl, ?_⟩) (by assumption) ?_
        rotate_left 1
        · (intro w hSw; (try dsimp only at hSw); go_simp <;> with_reducible rfl)
        try simp only [Act.put, List.setIfInBounds_toArray, List.set_cons_zero, List.set_cons_succ]
        refine wpAnyH_done (by kernel_rfl) ?_ _
        have hnx : Hid (LB wr w3 (.slice (some ⟨g, 0, none⟩) (i + 1) cap) (fun i => xn i % X.N) (fun i => floatOfInt .f64 (yc i)) (i + 1)) := (unhide hL).step (unhide HBX) hF3 hg3 hown3
        clear hF3 hg3 hown3 hgrow3 hat3 hlt3
        go_wp2_with fail
        exact ⟨⟨i + 1, by omega, rfl, hnx⟩, by simp [intOf]; omega⟩

      · obtain rfl : i = bn := by omega
        go_wp2_with fail
        go_meet
        exact hL
  case rest =>
    rename World => wq
    rename Value => bv
    have hL := unhide hcut
    have hBq := (unhide HB).later hL.bel
    obtain ⟨ba, bcap, rfl, hsh⟩ := own_shape hL.own
    have hnl : nsb < wr.heap.size := own_lt (unhide Hn) nsb (by simp [ob, Value.ownBlock])
    have hns : ∀ i, i < nn → wq.cell? ⟨nsb, i, none⟩ = some (.int .i64 ((nf i : Nat) : Int)) := fun i hi => by
      obtain ⟨g, cap, he, _, hc⟩ := own_cells (unhide Hn) nn0
      simp only [Value.slice.injEq, Option.some.injEq, Addr.mk.injEq] at he
      obtain ⟨⟨rfl, _⟩, _⟩ := he
      exact cell_stays hL.bel (hc i _ (by simp [intsL, hi]))
    obtain ⟨bb, hba, hbb⟩ : ∃ bb, (bn = 0 ∨ ba = some ⟨bb, 0, none⟩) ∧ (bn = 0 ∨ (wr.heap.size ≤ bb ∧ ∀ j u, (blL (fun i => xn i % X.N) (fun i => floatOfInt .f64 (yc i)) bn)[j]? = some u → wq.cell? ⟨bb, j, none⟩ = some u)) := by
      by_cases c : bn = 0
      · exact ⟨0, .inl c, .inl c⟩
      · obtain ⟨g, cap, he, hgo, hc⟩ := own_cells hL.own (by omega)
        simp only [Value.slice.injEq] at he
        exact ⟨g, .inr he.1, .inr ⟨hL.fz g hgo, hc⟩⟩
    have hbl : ∀ i, i < bn → wq.cell? ⟨bb, 2 * i, none⟩ = some (.int .i64 ((xn i % X.N : Nat) : Int)) ∧ wq.cell? ⟨bb, 2 * i + 1, none⟩ = some (.float .f64 (floatOfInt .f64 (yc i))) := fun i hi => by
      rcases hbb with h1 | ⟨_, hc⟩
      · omega
      · exact ⟨hc _ _ (blL_at _ _ bn i hi).1, hc _ _ (blL_at _ _ bn i hi).2⟩
    have hJ := hBq.ready (ncap := ncap) (bcap := bcap) (unhide Hr) hns nn0 nn1 nfN nf0 hbn (fun i hi => (hbl i hi).1) (fun i hi => (hbl i hi).2) (fun i => Nat.mod_lt _ hN0) (fun i => reads_ofInt (yc i) (by have := hyc i; omega)) hba (unhide Hf)
      (by
        rcases hbb with h1 | ⟨h1, _⟩
        · exact .inl h1
        · refine .inr ⟨fun hm => ?_, fun hm => ?_⟩
          · have := (unhide HB).lt bb hm; omega
          · have := own_lt (unhide HB).own bb hm; omega)
    exact (by assumption : ∀ (a : Act) (w0 : World), Code.wp Ybaz.prog tail23 (bodyPost Ybaz.prog Ybaz.f5 (BPost w)) a w0 → _) _ _ (b_t23 hJ)


end Go.Proofs.YbulkbtkoGreatFmt

import Derived.Test.YbulkbtkoGreatFmtLc
namespace Go.Proofs.YbulkbtkoGreatFmt
open Go.RowKit
set_option linter.unusedVariables false
set_option linter.unusedSimpArgs false

theorem yields_neq65 {ops : Array Oper} {S : World → Prop} {o : Oper} {a : Act} (hw : Region.wanted o (yielded ops a.tmps) = true) (x y : Operand) (t : TypeId) (hop : o.op = Op.binOp .neq 65 x y t)
    (j h : Int) (c : Nat) (hc : (FloatKind.f64.format.order c c == some Ordering.eq) = true) (hx : a.eval x = .agg #[.int .i64 j, .float .f64 c, .int .i64 h]) (hy : a.eval y = .agg #[.int .i64 j, .float .f64 c, .int .i64 h]) : YieldsIf Ybaz.prog ops S o (.bool false) a :=
  .inl ⟨hw, fun w _ => by
    unfold execOp
    simp only [hop, hx, hy, Sem.run_bind, guard65, neq65 j h c hc, Result.andThen_ok]
    rfl⟩
theorem hds_len (cw id : Nat → Nat) (s : Nat) : ∀ l : List Nat, (hdsL cw id s l).length = 3 * l.length
  | [] => rfl
  | j :: l => by
    have h := hds_len cw id s l
    simp only [hdsL, List.flatMap_cons, List.length_append, List.length_cons, hdL, List.length_nil] at h ⊢
    omega
theorem hds_at {cw id : Nat → Nat} {s : Nat} : ∀ (l : List Nat) (i j : Nat), l[i]? = some j → ∀ q u, (hdL cw id s j)[q]? = some u → (hdsL cw id s l)[i * 3 + q]? = some u
  | [], i, j, h, q, u, hq => by simp at h
  | a :: l, 0, j, h, q, u, hq => by
    have e : a = j := by simpa using h
    subst e
    have hl : q < (hdL cw id s a).length := by
      rcases Nat.lt_or_ge q (hdL cw id s a).length with c | c
      · exact c
      · rw [List.getElem?_eq_none c] at hq; cases hq
    simp only [hdsL, List.flatMap_cons]
    rw [Nat.zero_mul, Nat.zero_add, List.getElem?_append_left hl]
    exact hq
  | a :: l, i + 1, j, h, q, u, hq => by
    have h' : l[i]? = some j := by simpa using h
    have ih := hds_at l i j h' q u hq
    have e3 : (hdL cw id s a).length = 3 := rfl
    simp only [hdsL, List.flatMap_cons] at ih ⊢
    rw [List.getElem?_append_right (by rw [e3]; omega), e3, show (i + 1) * 3 + q - 3 = i * 3 + q by omega]
    exact ih

set_option maxHeartbeats 4000000 in
set_option maxRecDepth 100000 in
theorem law_t12 {w wZ : World} {wsb cab : Nat} {X : Cx} {Y : Ex} {fv v : Value} {T : Nat → Int} {C : Nat → Nat} {ed : Int} {r : Nat → Value} (hF : FZ w wZ wsb cab X Y fv v T C ed r) {q0 q1 q2 q3 q4 q5 q6 q7 q8 q9 q10 q11 q12 q13 q14 q19 q20 q21 q22 q23 q24 q25 q26 q27 q28 q29 q30 q31 q32 q33 q34 q35 q36 q37 q38 q39 q40 q41 q42 q43 q44 q45 q46 q47 q48 q49 q50 q51 q52 q53 q54 q55 q56 q57 q58 q59 q60 q61 q62 q63 q64 q65 q66 q67 q68 q69 q70 q71 q72 q73 q74 q75 q76 q77 q78 q79 q80 q81 q82 q83 q84 q85 q86 q87 q88 q89 q90 q91 q92 q93 q94 q95 q96 q97 q98 q99 q100 q101 q102 q103 q104 q105 q106 q107 q108 q109 q110 q111 q112 q113 q114 q115 q116 q117 q118 q119 q120 q121 q122 q123 q124 q125 q126 q127 q128 q129 q130 q131 q132 q133 q134 q135 q136 q137 q138 q139 q140 q141 q142 q143 q144 q145 q146 q147 q148 q149 q150 q151 q152 q153 q154 q155 q156 q157 q158 q159 q160 q161 q162 q163 q164 q165 q166 q167 q168 q169 q170 q171 q172 q173 q174 q175 q176 q177 q178 q179 q180 q181 q182 q183 q184 q185 q186 q187 q188 q189 q190 q191 q192 q193 q194 q195 q196 q197 q198 q199 q200 q201 q202 q203 q204 q205 q206 q207 q208 q209 q210 q211 q212 q213 q214 q215 q216 q217 q218 q219 q220 q221 q222 q223 q224 q225 q226 q227 q228 q229 q230 q231 q232 q233 q234 q235 q236 q237 q238 q239 q240 q241 q242 q243 q244 q245 q246 q247 q248 q249 q250 q251 q252 q253 q254 q255 q256 q257 q258 q259 q260 q261 q262 q263 q264 q265 q266 q267 q268 q269 q270 q271 q272 q273 q274 q275 q276 q277 q278 q279 q280 q281 q282 q283 q284 q285 q286 q287 q288 q289 q290 q291 q292 q293 q294 q295 q296 q297 q298 q299 q300 q301 q302 q303 q304 q305 q306 q307 q308 q309 q310 : Value} :
    Code.wp Ybaz.prog ltail12 (bodyPost Ybaz.prog Ybaz.f3 fun e w' => e = .returned (.bool true) ∧ Below w.heap.size w w') ⟨#[q0, q1, q2, q3, q4, q5, q6, q7, q8, q9, q10, q11, q12, q13, q14, .pointer (some ⟨wsb, 0, none⟩), .pointer (some ⟨X.nb, 0, none⟩), .pointer (some ⟨X.jb, 0, none⟩), .pointer (some ⟨cab, 0, none⟩), q19, q20, q21, q22, q23, q24, q25, q26, q27, q28, q29, q30, q31, q32, q33, q34, q35, q36, q37, q38, q39, q40, q41, q42, q43, q44, q45, q46, q47, q48, q49, q50, q51, q52, q53, q54, q55, q56, q57, q58, q59, q60, q61, q62, q63, q64, q65, q66, q67, q68, q69, q70, q71, q72, q73, q74, q75, q76, q77, q78, q79, q80, q81, q82, q83, q84, q85, q86, q87, q88, q89, q90, q91, q92, q93, q94, q95, q96, q97, q98, q99, q100, q101, q102, q103, q104, q105, q106, q107, q108, q109, q110, q111, q112, q113, q114, q115, q116, q117, q118, q119, q120, q121, q122, q123, q124, q125, q126, q127, q128, q129, q130, q131, q132, q133, q134, q135, q136, q137, q138, q139, q140, q141, q142, q143, q144, q145, q146, q147, q148, q149, q150, q151, q152, q153, q154, q155, q156, q157, q158, q159, q160, q161, q162, q163, q164, q165, q166, q167, q168, q169, q170, q171, q172, q173, q174, q175, q176, q177, q178, q179, q180, q181, q182, q183, q184, q185, q186, q187, q188, q189, q190, q191, q192, q193, q194, q195, q196, q197, q198, q199, q200, q201, q202, q203, q204, q205, q206, q207, q208, q209, q210, q211, q212, q213, q214, q215, q216, q217, q218, q219, q220, q221, q222, q223, q224, q225, q226, q227, q228, q229, q230, q231, q232, q233, q234, q235, q236, q237, q238, q239, q240, q241, q242, q243, q244, q245, q246, q247, q248, q249, q250, q251, q252, q253, q254, q255, q256, q257, q258, q259, q260, q261, q262, q263, q264, q265, q266, q267, q268, q269, q270, q271, q272, q273, q274, q275, q276, q277, q278, q279, q280, q281, q282, q283, q284, q285, q286, q287, q288, q289, q290, q291, q292, q293, q294, q295, q296, q297, q298, q299, q300, q301, q302, q303, q304, q305, q306, q307, q308, q309, q310], []⟩ wZ := by
  have hN := hF.hN
  have hsN := hF.hs
  have hlen := hF.len
  have hl0 := hF.hl0
  have c8 := hF.c8
  obtain ⟨fa, fc, rfl, hfa⟩ := own_shape hF.fown
  have HF := hide hF
  clear hF
  conv => arg 2; simp only [ltail12, Ybaz.f3, Option.getD_some, sndSeq]
  dsimp only
  go_upto_block 0 with fail
  go_cut [] (fun wq => Hid (Same wZ wq))
  case first =>
    go_wp2_with fail
    go_loopw [153] (fun iv wq => ∃ k : Nat, k ≤ (PSof X Y).fresh.length ∧ iv = .int .i64 (k : Int) ∧ Hid (Same wZ wq)) (fun iv _ => (PSof X Y).fresh.length - (intOf iv).toNat)
    case atStart => exact ⟨0, by omega, rfl, Same.refl _⟩
    case round =>
      obtain ⟨k, hk, rfl, hSm⟩ := hrel
      rename World => wq
      by_cases hkl : k < (PSof X Y).fresh.length
      · have hFq := hide ((unhide HF).same (unhide hSm))
        obtain ⟨fb, fcap, hfe, _, hfc⟩ := own_cells (unhide hFq).fown (by omega)
        simp only [Value.slice.injEq] at hfe
        obtain ⟨rfl, _, rfl⟩ := hfe
        obtain ⟨j, hj⟩ : ∃ j, (PSof X Y).fresh[k]? = some j := ⟨_, List.getElem?_eq_getElem hkl⟩
        have m1 := hfc k (.int .i64 ((j : Nat) : Int)) (by simp [intsL, hj])
        have hjN : j < X.N := (unhide HF).flt j (List.mem_of_getElem? hj)
        have hjl : (X.l0 ++ (PSof X Y).fresh)[X.l0.length + k]? = some j := by rw [List.getElem?_append_right (by omega), Nat.add_sub_cancel_left]; exact hj
        have hll : (X.l0 ++ (PSof X Y).fresh).length = X.l0.length + (PSof X Y).fresh.length := by simp
        obtain ⟨g, cap, hge, _, hgc⟩ := own_cells (unhide hFq).own (by omega)
        have c0 : wq.drew.cell? ⟨X.jb, 0, none⟩ = some (.slice (some ⟨g, 0, none⟩) (X.l0 ++ (PSof X Y).fresh).length cap) := by
          have h1 : wq.cell? ⟨X.jb, 0, none⟩ = some v := ((unhide hFq).jrow.cell (by omega)).trans (by simp [putF])
          rw [hge] at h1
          exact h1
        have hrg : wq.drew.rangeAt g ((X.l0.length + k) * 3) [.int .i64 ((j : Nat) : Int), .float .f64 (X.cw j), .int .i64 ((shD (X.id X.s) (X.id j) : Nat) : Int)] := fun q u hq => hgc _ _ (hds_at _ _ _ hjl q u hq)
        have hFd := (unhide hFq).same ((Same.refl wq).drew)
        have c11 := hFd.c11
        have c3 := hFd.c3
        have c2 := hFd.c2
        have c4 := hFd.c4
        have d3 := hFd.net.cost.cell hjN
        have d1 := hFd.net.ids.cell hsN
        have d2 := hFd.net.ids.cell hjN
        have hcc : (FloatKind.f64.format.order (X.cw j) (X.cw j) == some Ordering.eq) = true := by rw [eq_of' ((unhide HF).hcw j) ((unhide HF).hcw j)]; simp
        have k0 : (0 : Int) ≤ (k : Int) := by omega
        have k1 : (k : Int) < (((PSof X Y).fresh.length : Nat) : Int) := by omega
        have j0 : (0 : Int) ≤ ((j : Nat) : Int) := by omega
        have j1 : ((j : Nat) : Int) < ((X.N : Nat) : Int) := by omega
        have s0 : (0 : Int) ≤ ((X.s : Nat) : Int) := by omega
        have s1 : ((X.s : Nat) : Int) < ((X.N : Nat) : Int) := by omega
        have p1 : ((X.l0.length : Nat) : Int) + (k : Int) < (((X.l0 ++ (PSof X Y).fresh).length : Nat) : Int) := by omega
        have p0 : (0 : Int) ≤ ((X.l0.length : Nat) : Int) + (k : Int) := by omega
        have p2 : ((X.l0.length : Nat) : Int) + (k : Int) < ((X.l0.length : Nat) : Int) + (((PSof X Y).fresh.length : Nat) : Int) := by omega
        have hwr : IntKind.i64.wrap (((X.l0.length : Nat) : Int) + (k : Int)) = ((X.l0.length : Nat) : Int) + (k : Int) := by rw [IntKind.wrap_i64]; omega
        have hto : (((X.l0.length : Nat) : Int) + (k : Int)).toNat = X.l0.length + k := by omega
        clear hfc hge hgc hFd hj hjl
        go_upto_region 20 with fail
        refine wp_region_held_drew (S := fun w' => w'.cell? ⟨X.jb, 0, none⟩ = some (.slice (some ⟨g, 0, none⟩) (X.l0 ++ (PSof X Y).fresh).length cap) ∧ w'.cell? ⟨wsb, 11, none⟩ = some (.int .i64 ((X.l0.length : Nat) : Int)) ∧ w'.rangeAt g ((X.l0.length + k) * 3) [.int .i64 ((j : Nat) : Int), .float .f64 (X.cw j), .int .i64 ((shD (X.id X.s) (X.id j) : Nat) : Int)] ∧ w'.cell? ⟨wsb, 3, none⟩ = some (.slice (some ⟨X.cb, 0, none⟩) X.N X.N) ∧ w'.cell? ⟨X.cb, j, none⟩ = some (.float .f64 (X.cw j)) ∧ w'.cell? ⟨wsb, 2, none⟩ = some (.slice (some ⟨X.ib, 0, none⟩) X.N X.N) ∧ w'.cell? ⟨wsb, 4, none⟩ = some (.int .i64 ((X.s : Nat) : Int)) ∧ w'.cell? ⟨X.ib, X.s, none⟩ = some (.int .u64 ((X.id X.s : Nat) : Int)) ∧ w'.cell? ⟨X.ib, j, none⟩ = some (.int .u64 ((X.id j : Nat) : Int))) (by kernel_rfl) ⟨c0, c11, hrg, c3, d3, c2, c4, d1, d2⟩ (fun hHeld => ?_)
        refine wpAnyH_take (i := 0) (oi := { dst := some 158, op := Op.move (Operand.tmp 17), type := 27, pos := "zz_law_s3498b.go:162", after := _, guard := none }) (v := ?_) rfl (by kernel_rfl) (by kernel_rfl) (by kernel_rfl) (fun _ _ _ h => h) (Or.inl ⟨by rfl, ?_⟩) (by assumption) ?_
        rotate_left 1
        · (intro w hSw; (try dsimp only at hSw); go_simp <;> with_reducible rfl)
        try simp only [Act.put, List.setIfInBounds_toArray, List.set_cons_zero, List.set_cons_succ]
        refine wpAnyH_take (i := 1) (oi := { dst := some 159, op := Op.nilCheck (Operand.tmp 158), type := 0, pos := "zz_law_s3498b.go:162", after := _, guard := none }) (v := ?_) rfl (by kernel_rfl) (by kernel_rfl) (by kernel_rfl) (fun _ _ _ h => h) (Or.inl ⟨by rfl, ?_⟩) (by assumption) ?_
        rotate_left 1
        · (intro w hSw; (try dsimp only at hSw); go_simp <;> with_reducible rfl)
        try simp only [Act.put, List.setIfInBounds_toArray, List.set_cons_zero, List.set_cons_succ]
        refine wpAnyH_take (i := 2) (oi := { dst := some 160, op := Op.fieldAddr 47 (Operand.tmp 159) 0, type := 0, pos := "zz_law_s3498b.go:162", after := _, guard := none }) (v := ?_) rfl (by kernel_rfl) (by kernel_rfl) (by kernel_rfl) (fun _ _ _ h => h) (Or.inl ⟨by rfl, ?_⟩) (by assumption) ?_
        rotate_left 1
        · (intro w hSw; (try dsimp only at hSw); go_simp <;> with_reducible rfl)
        try simp only [Act.put, List.setIfInBounds_toArray, List.set_cons_zero, List.set_cons_succ]
        refine wpAnyH_take (i := 3) (oi := { dst := some 161, op := Op.fieldAddr 43 (Operand.tmp 160) 0, type := 0, pos := "zz_law_s3498b.go:162", after := _, guard := none }) (v := ?_) rfl (by kernel_rfl) (by kernel_rfl) (by kernel_rfl) (fun _ _ _ h => h) (Or.inl ⟨by rfl, ?_⟩) (by assumption) ?_
        rotate_left 1
        · (intro w hSw; (try dsimp only at hSw); go_simp <;> with_reducible rfl)
        try simp only [Act.put, List.setIfInBounds_toArray, List.set_cons_zero, List.set_cons_succ]
        refine wpAnyH_take (i := 4) (oi := { dst := some 162, op := Op.load 40 (Operand.tmp 161), type := 40, pos := "zz_law_s3498b.go:162", after := _, guard := none }) (v := ?_) rfl (by kernel_rfl) (by kernel_rfl) (by kernel_rfl) (fun _ _ _ h => h) (Or.inl ⟨by rfl, ?_⟩) (by assumption) ?_
        rotate_left 1
        · (intro w hSw; (try dsimp only at hSw); go_simp <;> with_reducible rfl)
        try simp only [Act.put, List.setIfInBounds_toArray, List.set_cons_zero, List.set_cons_succ]
        refine wpAnyH_take (i := 5) (oi := { dst := some 163, op := Op.move (Operand.tmp 15), type := 24, pos := "zz_law_s3498b.go:162", after := _, guard := none }) (v := ?_) rfl (by kernel_rfl) (by kernel_rfl) (by kernel_rfl) (fun _ _ _ h => h) (Or.inl ⟨by rfl, ?_⟩) (by assumption) ?_
        rotate_left 1
        · (intro w hSw; (try dsimp only at hSw); go_simp <;> with_reducible rfl)
        try simp only [Act.put, List.setIfInBounds_toArray, List.set_cons_zero, List.set_cons_succ]
        refine wpAnyH_take (i := 6) (oi := { dst := some 164, op := Op.nilCheck (Operand.tmp 163), type := 0, pos := "zz_law_s3498b.go:162", after := _, guard := none }) (v := ?_) rfl (by kernel_rfl) (by kernel_rfl) (by kernel_rfl) (fun _ _ _ h => h) (Or.inl ⟨by rfl, ?_⟩) (by assumption) ?_
        rotate_left 1
        · (intro w hSw; (try dsimp only at hSw); go_simp <;> with_reducible rfl)
        try simp only [Act.put, List.setIfInBounds_toArray, List.set_cons_zero, List.set_cons_succ]
        refine wpAnyH_take (i := 7) (oi := { dst := some 165, op := Op.fieldAddr 39 (Operand.tmp 164) 11, type := 0, pos := "zz_law_s3498b.go:162", after := _, guard := none }) (v := ?_) rfl (by kernel_rfl) (by kernel_rfl) (by kernel_rfl) (fun _ _ _ h => h) (Or.inl ⟨by rfl, ?_⟩) (by assumption) ?_
        rotate_left 1
        · (intro w hSw; (try dsimp only at hSw); go_simp <;> with_reducible rfl)
        try simp only [Act.put, List.setIfInBounds_toArray, List.set_cons_zero, List.set_cons_succ]
        refine wpAnyH_take (i := 8) (oi := { dst := some 166, op := Op.load 3 (Operand.tmp 165), type := 3, pos := "zz_law_s3498b.go:162", after := _, guard := none }) (v := ?_) rfl (by kernel_rfl) (by kernel_rfl) (by kernel_rfl) (fun _ _ _ h => h) (Or.inl ⟨by rfl, ?_⟩) (by assumption) ?_
        rotate_left 1
        · (intro w hSw; (try dsimp only at hSw); go_simp <;> with_reducible rfl)
        try simp only [Act.put, List.setIfInBounds_toArray, List.set_cons_zero, List.set_cons_succ]
        refine wpAnyH_take (i := 9) (oi := { dst := some 167, op := Op.move (Operand.tmp 19), type := 3, pos := "zz_law_s3498b.go:162", after := _, guard := none }) (v := ?_) rfl (by kernel_rfl) (by kernel_rfl) (by kernel_rfl) (fun _ _ _ h => h) (Or.inl ⟨by rfl, ?_⟩) (by assumption) ?_
        rotate_left 1
        · (intro w hSw; (try dsimp only at hSw); go_simp <;> with_reducible rfl)
        try simp only [Act.put, List.setIfInBounds_toArray, List.set_cons_zero, List.set_cons_succ]
        refine wpAnyH_take (i := 10) (oi := { dst := some 168, op := Op.binOp BinOp.add 3 (Operand.tmp 166) (Operand.tmp 167) 3, type := 3, pos := "zz_law_s3498b.go:162", after := _, guard := none }) (v := ?_) rfl (by kernel_rfl) (by kernel_rfl) (by kernel_rfl) (fun _ _ _ h => h) (Or.inl ⟨by rfl, ?_⟩) (by assumption) ?_
        rotate_left 1
        · (intro w hSw; (try dsimp only at hSw); go_simp <;> with_reducible rfl)
        try simp only [Act.put, List.setIfInBounds_toArray, List.set_cons_zero, List.set_cons_succ]
        refine wpAnyH_take (i := 11) (oi := { dst := some 169, op := Op.indexAddr 40 (Operand.tmp 162) (Operand.tmp 168), type := 0, pos := "zz_law_s3498b.go:162", after := _, guard := none }) (v := .pointer (some ⟨g, (X.l0.length + k) * 3, none⟩)) rfl (by kernel_rfl) (by kernel_rfl) (by kernel_rfl) (fun _ _ _ h => h) (Or.inl ⟨by rfl, ?_⟩) (by assumption) ?_
        · (intro w hSw; go_simp; first | done | rfl | (rw [if_pos ⟨p0, p2⟩, hto]) | (simp [p0, p2, hto]; done))
        try simp only [Act.put, List.setIfInBounds_toArray, List.set_cons_zero, List.set_cons_succ]
        refine wpAnyH_take (i := 12) (oi := { dst := some 170, op := Op.load 65 (Operand.tmp 169), type := 65, pos := "zz_law_s3498b.go:162", after := _, guard := none }) rfl (by kernel_rfl) (by kernel_rfl) (by kernel_rfl) (fun _ _ _ h => h) (yieldsIf_load_mid (by rfl) _ _ rfl g ((X.l0.length + k) * 3) rfl [.int .i64 ((j : Nat) : Int), .float .f64 (X.cw j), .int .i64 ((shD (X.id X.s) (X.id j) : Nat) : Int)] _ (fun w h => h.2.2.1) Ybaz.underlying65 rfl (by kernel_rfl)) (by assumption) ?_
        try simp only [Act.put, List.setIfInBounds_toArray, List.set_cons_zero, List.set_cons_succ]
        refine wpAnyH_take (i := 13) (oi := { dst := some 171, op := Op.move (Operand.tmp 20), type := 3, pos := "zz_law_s3498b.go:162", after := _, guard := none }) (v := ?_) rfl (by kernel_rfl) (by kernel_rfl) (by kernel_rfl) (fun _ _ _ h => h) (Or.inl ⟨by rfl, ?_⟩) (by assumption) ?_
        rotate_left 1
        · (intro w hSw; (try dsimp only at hSw); go_simp <;> with_reducible rfl)
        try simp only [Act.put, List.setIfInBounds_toArray, List.set_cons_zero, List.set_cons_succ]
        refine wpAnyH_take (i := 14) (oi := { dst := some 172, op := Op.move (Operand.tmp 15), type := 24, pos := "zz_law_s3498b.go:162", after := _, guard := none }) (v := ?_) rfl (by kernel_rfl) (by kernel_rfl) (by kernel_rfl) (fun _ _ _ h => h) (Or.inl ⟨by rfl, ?_⟩) (by assumption) ?_
        rotate_left 1
        · (intro w hSw; (try dsimp only at hSw); go_simp <;> with_reducible rfl)
        try simp only [Act.put, List.setIfInBounds_toArray, List.set_cons_zero, List.set_cons_succ]
        refine wpAnyH_take (i := 15) (oi := { dst := some 173, op := Op.nilCheck (Operand.tmp 172), type := 0, pos := "zz_law_s3498b.go:162", after := _, guard := none }) (v := ?_) rfl (by kernel_rfl) (by kernel_rfl) (by kernel_rfl) (fun _ _ _ h => h) (Or.inl ⟨by rfl, ?_⟩) (by assumption) ?_
        rotate_left 1
        · (intro w hSw; (try dsimp only at hSw); go_simp <;> with_reducible rfl)
        try simp only [Act.put, List.setIfInBounds_toArray, List.set_cons_zero, List.set_cons_succ]
        refine wpAnyH_take (i := 16) (oi := { dst := some 174, op := Op.fieldAddr 39 (Operand.tmp 173) 3, type := 0, pos := "zz_law_s3498b.go:162", after := _, guard := none }) (v := ?_) rfl (by kernel_rfl) (by kernel_rfl) (by kernel_rfl) (fun _ _ _ h => h) (Or.inl ⟨by rfl, ?_⟩) (by assumption) ?_
        rotate_left 1
        · (intro w hSw; (try dsimp only at hSw); go_simp <;> with_reducible rfl)
        try simp only [Act.put, List.setIfInBounds_toArray, List.set_cons_zero, List.set_cons_succ]
        refine wpAnyH_take (i := 17) (oi := { dst := some 175, op := Op.load 29 (Operand.tmp 174), type := 29, pos := "zz_law_s3498b.go:162", after := _, guard := none }) (v := ?_) rfl (by kernel_rfl) (by kernel_rfl) (by kernel_rfl) (fun _ _ _ h => h) (Or.inl ⟨by rfl, ?_⟩) (by assumption) ?_
        rotate_left 1
        · (intro w hSw; (try dsimp only at hSw); go_simp <;> with_reducible rfl)
        try simp only [Act.put, List.setIfInBounds_toArray, List.set_cons_zero, List.set_cons_succ]
        refine wpAnyH_take (i := 18) (oi := { dst := some 176, op := Op.move (Operand.tmp 20), type := 3, pos := "zz_law_s3498b.go:162", after := _, guard := none }) (v := ?_) rfl (by kernel_rfl) (by kernel_rfl) (by kernel_rfl) (fun _ _ _ h => h) (Or.inl ⟨by rfl, ?_⟩) (by assumption) ?_
        rotate_left 1
        · (intro w hSw; (try dsimp only at hSw); go_simp <;> with_reducible rfl)
        try simp only [Act.put, List.setIfInBounds_toArray, List.set_cons_zero, List.set_cons_succ]
        refine wpAnyH_take (i := 19) (oi := { dst := some 177, op := Op.indexAddr 29 (Operand.tmp 175) (Operand.tmp 176), type := 0, pos := "zz_law_s3498b.go:162", after := _, guard := none }) (v := ?_) rfl (by kernel_rfl) (by kernel_rfl) (by kernel_rfl) (fun _ _ _ h => h) (Or.inl ⟨by rfl, ?_⟩) (by assumption) ?_
        rotate_left 1
        · (intro w hSw; (try dsimp only at hSw); go_simp <;> with_reducible rfl)
        try simp only [Act.put, List.setIfInBounds_toArray, List.set_cons_zero, List.set_cons_succ]
        refine wpAnyH_take (i := 20) (oi := { dst := some 178, op := Op.load 51 (Operand.tmp 177), type := 51, pos := "zz_law_s3498b.go:162", after := _, guard := none }) (v := ?_) rfl (by kernel_rfl) (by kernel_rfl) (by kernel_rfl) (fun _ _ _ h => h) (Or.inl ⟨by rfl, ?_⟩) (by assumption) ?_
        rotate_left 1
        · (intro w hSw; (try dsimp only at hSw); go_simp <;> with_reducible rfl)
        try simp only [Act.put, List.setIfInBounds_toArray, List.set_cons_zero, List.set_cons_succ]
        refine wpAnyH_take (i := 21) (oi := { dst := some 179, op := Op.move (Operand.tmp 15), type := 24, pos := "zz_law_s3498b.go:162", after := _, guard := none }) (v := ?_) rfl (by kernel_rfl) (by kernel_rfl) (by kernel_rfl) (fun _ _ _ h => h) (Or.inl ⟨by rfl, ?_⟩) (by assumption) ?_
        rotate_left 1
        · (intro w hSw; (try dsimp only at hSw); go_simp <;> with_reducible rfl)
        try simp only [Act.put, List.setIfInBounds_toArray, List.set_cons_zero, List.set_cons_succ]
        refine wpAnyH_take (i := 22) (oi := { dst := some 180, op := Op.nilCheck (Operand.tmp 179), type := 0, pos := "zz_law_s3498b.go:162", after := _, guard := none }) (v := ?_) rfl (by kernel_rfl) (by kernel_rfl) (by kernel_rfl) (fun _ _ _ h => h) (Or.inl ⟨by rfl, ?_⟩) (by assumption) ?_
        rotate_left 1
        · (intro w hSw; (try dsimp only at hSw); go_simp <;> with_reducible rfl)
        try simp only [Act.put, List.setIfInBounds_toArray, List.set_cons_zero, List.set_cons_succ]
        refine wpAnyH_take (i := 23) (oi := { dst := some 181, op := Op.fieldAddr 39 (Operand.tmp 180) 2, type := 0, pos := "zz_law_s3498b.go:162", after := _, guard := none }) (v := ?_) rfl (by kernel_rfl) (by kernel_rfl) (by kernel_rfl) (fun _ _ _ h => h) (Or.inl ⟨by rfl, ?_⟩) (by assumption) ?_
        rotate_left 1
        · (intro w hSw; (try dsimp only at hSw); go_simp <;> with_reducible rfl)
        try simp only [Act.put, List.setIfInBounds_toArray, List.set_cons_zero, List.set_cons_succ]
        refine wpAnyH_take (i := 24) (oi := { dst := some 182, op := Op.load 28 (Operand.tmp 181), type := 28, pos := "zz_law_s3498b.go:162", after := _, guard := none }) (v := ?_) rfl (by kernel_rfl) (by kernel_rfl) (by kernel_rfl) (fun _ _ _ h => h) (Or.inl ⟨by rfl, ?_⟩) (by assumption) ?_
        rotate_left 1
        · (intro w hSw; (try dsimp only at hSw); go_simp <;> with_reducible rfl)
        try simp only [Act.put, List.setIfInBounds_toArray, List.set_cons_zero, List.set_cons_succ]
        refine wpAnyH_take (i := 25) (oi := { dst := some 183, op := Op.move (Operand.tmp 15), type := 24, pos := "zz_law_s3498b.go:162", after := _, guard := none }) (v := ?_) rfl (by kernel_rfl) (by kernel_rfl) (by kernel_rfl) (fun _ _ _ h => h) (Or.inl ⟨by rfl, ?_⟩) (by assumption) ?_
        rotate_left 1
        · (intro w hSw; (try dsimp only at hSw); go_simp <;> with_reducible rfl)
        try simp only [Act.put, List.setIfInBounds_toArray, List.set_cons_zero, List.set_cons_succ]
        refine wpAnyH_take (i := 26) (oi := { dst := some 184, op := Op.nilCheck (Operand.tmp 183), type := 0, pos := "zz_law_s3498b.go:162", after := _, guard := none }) (v := ?_) rfl (by kernel_rfl) (by kernel_rfl) (by kernel_rfl) (fun _ _ _ h => h) (Or.inl ⟨by rfl, ?_⟩) (by assumption) ?_
        rotate_left 1
        · (intro w hSw; (try dsimp only at hSw); go_simp <;> with_reducible rfl)
        try simp only [Act.put, List.setIfInBounds_toArray, List.set_cons_zero, List.set_cons_succ]
        refine wpAnyH_take (i := 27) (oi := { dst := some 185, op := Op.fieldAddr 39 (Operand.tmp 184) 4, type := 0, pos := "zz_law_s3498b.go:162", after := _, guard := none }) (v := ?_) rfl (by kernel_rfl) (by kernel_rfl) (by kernel_rfl) (fun _ _ _ h => h) (Or.inl ⟨by rfl, ?_⟩) (by assumption) ?_
        rotate_left 1
        · (intro w hSw; (try dsimp only at hSw); go_simp <;> with_reducible rfl)
        try simp only [Act.put, List.setIfInBounds_toArray, List.set_cons_zero, List.set_cons_succ]
        refine wpAnyH_take (i := 28) (oi := { dst := some 186, op := Op.load 3 (Operand.tmp 185), type := 3, pos := "zz_law_s3498b.go:162", after := _, guard := none }) (v := ?_) rfl (by kernel_rfl) (by kernel_rfl) (by kernel_rfl) (fun _ _ _ h => h) (Or.inl ⟨by rfl, ?_⟩) (by assumption) ?_
        rotate_left 1
        · (intro w hSw; (try dsimp only at hSw); go_simp <;> with_reducible rfl)
        try simp only [Act.put, List.setIfInBounds_toArray, List.set_cons_zero, List.set_cons_succ]
        refine wpAnyH_take (i := 29) (oi := { dst := some 187, op := Op.indexAddr 28 (Operand.tmp 182) (Operand.tmp 186), type := 0, pos := "zz_law_s3498b.go:162", after := _, guard := none }) (v := ?_) rfl (by kernel_rfl) (by kernel_rfl) (by kernel_rfl) (fun _ _ _ h => h) (Or.inl ⟨by rfl, ?_⟩) (by assumption) ?_
        rotate_left 1
        · (intro w hSw; (try dsimp only at hSw); go_simp <;> with_reducible rfl)
        try simp only [Act.put, List.setIfInBounds_toArray, List.set_cons_zero, List.set_cons_succ]
        refine wpAnyH_take (i := 30) (oi := { dst := some 188, op := Op.load 34 (Operand.tmp 187), type := 34, pos := "zz_law_s3498b.go:162", after := _, guard := none }) (v := ?_) rfl (by kernel_rfl) (by kernel_rfl) (by kernel_rfl) (fun _ _ _ h => h) (Or.inl ⟨by rfl, ?_⟩) (by assumption) ?_
        rotate_left 1
        · (intro w hSw; (try dsimp only at hSw); go_simp <;> with_reducible rfl)
        try simp only [Act.put, List.setIfInBounds_toArray, List.set_cons_zero, List.set_cons_succ]
        refine wpAnyH_take (i := 31) (oi := { dst := some 189, op := Op.move (Operand.tmp 15), type := 24, pos := "zz_law_s3498b.go:162", after := _, guard := none }) (v := ?_) rfl (by kernel_rfl) (by kernel_rfl) (by kernel_rfl) (fun _ _ _ h => h) (Or.inl ⟨by rfl, ?_⟩) (by assumption) ?_
        rotate_left 1
        · (intro w hSw; (try dsimp only at hSw); go_simp <;> with_reducible rfl)
        try simp only [Act.put, List.setIfInBounds_toArray, List.set_cons_zero, List.set_cons_succ]
        refine wpAnyH_take (i := 32) (oi := { dst := some 190, op := Op.nilCheck (Operand.tmp 189), type := 0, pos := "zz_law_s3498b.go:162", after := _, guard := none }) (v := ?_) rfl (by kernel_rfl) (by kernel_rfl) (by kernel_rfl) (fun _ _ _ h => h) (Or.inl ⟨by rfl, ?_⟩) (by assumption) ?_
        rotate_left 1
        · (intro w hSw; (try dsimp only at hSw); go_simp <;> with_reducible rfl)
        try simp only [Act.put, List.setIfInBounds_toArray, List.set_cons_zero, List.set_cons_succ]
        refine wpAnyH_take (i := 33) (oi := { dst := some 191, op := Op.fieldAddr 39 (Operand.tmp 190) 2, type := 0, pos := "zz_law_s3498b.go:162", after := _, guard := none }) (v := ?_) rfl (by kernel_rfl) (by kernel_rfl) (by kernel_rfl) (fun _ _ _ h => h) (Or.inl ⟨by rfl, ?_⟩) (by assumption) ?_
        rotate_left 1
        · (intro w hSw; (try dsimp only at hSw); go_simp <;> with_reducible rfl)
        try simp only [Act.put, List.setIfInBounds_toArray, List.set_cons_zero, List.set_cons_succ]
        refine wpAnyH_take (i := 34) (oi := { dst := some 192, op := Op.load 28 (Operand.tmp 191), type := 28, pos := "zz_law_s3498b.go:162", after := _, guard := none }) (v := ?_) rfl (by kernel_rfl) (by kernel_rfl) (by kernel_rfl) (fun _ _ _ h => h) (Or.inl ⟨by rfl, ?_⟩) (by assumption) ?_
        rotate_left 1
        · (intro w hSw; (try dsimp only at hSw); go_simp <;> with_reducible rfl)
        try simp only [Act.put, List.setIfInBounds_toArray, List.set_cons_zero, List.set_cons_succ]
        refine wpAnyH_take (i := 35) (oi := { dst := some 193, op := Op.move (Operand.tmp 20), type := 3, pos := "zz_law_s3498b.go:162", after := _, guard := none }) (v := ?_) rfl (by kernel_rfl) (by kernel_rfl) (by kernel_rfl) (fun _ _ _ h => h) (Or.inl ⟨by rfl, ?_⟩) (by assumption) ?_
        rotate_left 1
        · (intro w hSw; (try dsimp only at hSw); go_simp <;> with_reducible rfl)
        try simp only [Act.put, List.setIfInBounds_toArray, List.set_cons_zero, List.set_cons_succ]
        refine wpAnyH_take (i := 36) (oi := { dst := some 194, op := Op.indexAddr 28 (Operand.tmp 192) (Operand.tmp 193), type := 0, pos := "zz_law_s3498b.go:162", after := _, guard := none }) (v := ?_) rfl (by kernel_rfl) (by kernel_rfl) (by kernel_rfl) (fun _ _ _ h => h) (Or.inl ⟨by rfl, ?_⟩) (by assumption) ?_
        rotate_left 1
        · (intro w hSw; (try dsimp only at hSw); go_simp <;> with_reducible rfl)
        try simp only [Act.put, List.setIfInBounds_toArray, List.set_cons_zero, List.set_cons_succ]
        refine wpAnyH_take (i := 37) (oi := { dst := some 195, op := Op.load 34 (Operand.tmp 194), type := 34, pos := "zz_law_s3498b.go:162", after := _, guard := none }) (v := ?_) rfl (by kernel_rfl) (by kernel_rfl) (by kernel_rfl) (fun _ _ _ h => h) (Or.inl ⟨by rfl, ?_⟩) (by assumption) ?_
        rotate_left 1
        · (intro w hSw; (try dsimp only at hSw); go_simp <;> with_reducible rfl)
        try simp only [Act.put, List.setIfInBounds_toArray, List.set_cons_zero, List.set_cons_succ]
        refine wpAnyH_ready (rs := [38]) (by kernel_rfl) (by simp) ?_
        refine AllReadyH.cons (o := { dst := some 196, op := Op.call { callee := Callee.value (Operand.func 8), args := #[Operand.tmp 188, Operand.tmp 195], argTypes := #[34, 34] }, type := 3, pos := "zz_law_s3498b.go:162", after := _, guard := none }) rfl (fun K hK => ?_) AllReadyH.nil
        go_simp
        refine (zshared_any (X.id X.s) (X.id j) _ ((unhide HF).hid _) ((unhide HF).hid _)).mono ?_
        rintro e wz ⟨rfl, rfl⟩
        try (go_wp2_with fail)
        refine hK.out _ _ ⟨c0, c11, hrg, c3, d3, c2, c4, d1, d2⟩ (fun hHeld => ?_)
        clear hK K
        try simp only [Act.put, List.setIfInBounds_toArray, List.set_cons_zero, List.set_cons_succ]
        refine wpAnyH_take (i := 39) (oi := { dst := some 197, op := Op.build 65 #[(0, Operand.tmp 171), (1, Operand.tmp 178), (2, Operand.tmp 196)], type := 65, pos := "zz_law_s3498b.go:162", after := _, guard := none }) rfl (by kernel_rfl) (by kernel_rfl) (by kernel_rfl) (fun _ _ _ h => h) (yields_build3 (by rfl) 65 0 1 2 (Operand.tmp 171) (Operand.tmp 178) (Operand.tmp 196) rfl (.int .i64 ((j : Nat) : Int)) (.float .f64 (X.cw j)) (.int .i64 ((shD (X.id X.s) (X.id j) : Nat) : Int)) rfl rfl rfl #[.int .i64 ((j : Nat) : Int), .float .f64 (X.cw j), .int .i64 ((shD (X.id X.s) (X.id j) : Nat) : Int)] (build65 ((j : Nat) : Int) (X.cw j) ((shD (X.id X.s) (X.id j) : Nat) : Int))) (by assumption) ?_
        try simp only [Act.put, List.setIfInBounds_toArray, List.set_cons_zero, List.set_cons_succ]
        refine wpAnyH_take (i := 40) (oi := { dst := some 198, op := Op.binOp BinOp.neq 65 (Operand.tmp 170) (Operand.tmp 197) 65, type := 4, pos := "zz_law_s3498b.go:162", after := _, guard := none }) rfl (by kernel_rfl) (by kernel_rfl) (by kernel_rfl) (fun _ _ _ h => h) (yields_neq65 (by rfl) (Operand.tmp 170) (Operand.tmp 197) 65 rfl ((j : Nat) : Int) ((shD (X.id X.s) (X.id j) : Nat) : Int) (X.cw j) hcc rfl rfl) (by assumption) ?_
        try simp only [Act.put, List.setIfInBounds_toArray, List.set_cons_zero, List.set_cons_succ]
        refine wpAnyH_done (by kernel_rfl) ?_ _
        have hSy := hide ((unhide hSm).trans ((Same.refl wq).drew))
        go_wp2_with fail
        exact ⟨⟨k + 1, by omega, rfl, hSy⟩, by simp [intOf]; omega⟩

      · obtain rfl : k = (PSof X Y).fresh.length := by omega
        go_wp2_with fail
        go_meet
        exact hSm
  case rest =>
    exact (by assumption : ∀ (a : Act) (w0 : World), Code.wp Ybaz.prog ltail13 (bodyPost Ybaz.prog Ybaz.f3 fun e w' => e = .returned (.bool true) ∧ Below w.heap.size w w') a w0 → _) _ _ (law_t13 ((unhide HF).same (unhide hcut)))


end Go.Proofs.YbulkbtkoGreatFmt

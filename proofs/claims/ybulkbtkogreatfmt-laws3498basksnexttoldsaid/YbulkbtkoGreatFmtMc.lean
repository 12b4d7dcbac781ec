import Derived.Test.YbulkbtkoGreatFmtMb
namespace Go.Proofs.YbulkbtkoGreatFmt
open Go.RowKit
set_option linter.unusedVariables false
set_option linter.unusedSimpArgs false

theorem mem_in2 {N : Nat} {l f : List Nat} {j : Nat} (hl : ∀ j ∈ l, j < N) (hf : ∀ j ∈ f, j < N) : j ∈ (List.range N).filter (fun i => decide (i ∈ l ++ f)) ↔ j ∈ l ++ f := by
  simp only [List.mem_filter, List.mem_range, decide_eq_true_eq]
  refine ⟨fun h => h.2, fun h => ⟨?_, h⟩⟩
  rcases List.mem_append.1 h with h | h
  · exact hl j h
  · exact hf j h
theorem guard45n (x y : Operand) (u v : Array Value) (w : World) : (eqGuard .neq 45 x y (.agg u) (.agg v)).run Ybaz.prog w = .ok () w := by
  have h : Ybaz.prog.eqGuardType Ybaz.prog.depth 45 = false := by kernel_rfl
  unfold eqGuard
  go_simp
theorem neq45 (T : Nat → Int) (w : World) : (binOp .neq 45 (.agg (tabL T).toArray) (.agg (tabL T).toArray)).run Ybaz.prog w = .ok (.bool false) w := by
  have hA : ∀ i, i < 256 → ∃ x, (tabL T).toArray[i]? = some (.int .i64 x) := fun i hi => ⟨T i, by
    rw [List.getElem?_toArray]
    unfold tabL
    rw [List.getElem?_map, List.getElem?_range hi]
    rfl⟩
  generalize (tabL T).toArray = A at hA
  rw [run_neq_struct, eqD 10000 ⟨9997, rfl⟩ A hA w]
  rfl
theorem yields_neq45 {ops : Array Oper} {S : World → Prop} {o : Oper} {a : Act} (hw : Region.wanted o (yielded ops a.tmps) = true) (x y : Operand) (t : TypeId) (hop : o.op = Op.binOp .neq 45 x y t)
    (T : Nat → Int) (hx : a.eval x = .agg (tabL T).toArray) (hy : a.eval y = .agg (tabL T).toArray) : YieldsIf Ybaz.prog ops S o (.bool false) a :=
  .inl ⟨hw, fun w _ => by
    unfold execOp
    simp only [hop, hx, hy, Sem.run_bind, guard45n, neq45, Result.andThen_ok]
    rfl⟩

set_option maxHeartbeats 4000000 in
set_option maxRecDepth 100000 in
theorem m_t8 {w wZ : World} {wsb lgb : Nat} {X : Cx} {Y : Ex} {T : Nat → Int} {C : Nat → Nat} {ed : Int} {F rr : Nat → Value} {askS awS : Int → Bool} {na nw m : Nat} {L : List LogE} {lv : Value} (hF : FY w wZ wsb lgb X Y T C ed F rr askS awS na nw m L lv) {q0 q1 q2 q3 q4 q5 q6 q7 q8 q9 q10 q11 q12 q13 q14 q19 q20 q21 q22 q23 q24 q25 q26 q27 q28 q29 q30 q31 q32 q33 q34 q35 q36 q37 q38 q39 q40 q41 q42 q43 q44 q45 q46 q47 q48 q49 q50 q51 q52 q53 q54 q55 q56 q57 q58 q59 q60 q61 q62 q63 q64 q65 q66 q67 q68 q69 q70 q71 q72 q73 q74 q75 q76 q77 q78 q79 q80 q81 q82 q83 q84 q85 q86 q87 q88 q89 q90 q91 q92 q93 q94 q95 q96 q97 q98 q99 q100 q101 q102 q103 q104 q105 q106 q107 q108 q109 q110 q111 q112 q113 q114 q115 q116 q117 q118 q119 q120 q121 q122 q123 q124 q125 q126 q127 q128 q129 q130 q131 q132 q133 q134 q135 q136 q137 q138 q139 q140 q141 q142 q143 q144 q145 q146 q147 q148 q149 q150 q151 q152 q153 q154 q155 q156 q157 q158 q159 q160 q161 q162 q163 q164 q165 q166 q167 q168 q169 q170 q171 q172 q173 q174 q175 q176 q177 q178 q179 q180 q181 q182 q183 q184 q185 q186 q187 q188 q189 q190 q191 q192 q193 : Value} :
    Code.wp Ybaz.prog mtail8 (bodyPost Ybaz.prog Ybaz.f4 fun e w' => e = .returned (.bool true) ∧ Below w.heap.size w w') ⟨#[q0, q1, q2, q3, q4, q5, q6, q7, q8, q9, q10, q11, q12, q13, q14, .pointer (some ⟨wsb, 0, none⟩), .pointer (some ⟨X.nb, 0, none⟩), .pointer (some ⟨X.jb, 0, none⟩), .pointer (some ⟨lgb, 0, none⟩), q19, q20, q21, q22, q23, q24, q25, q26, q27, q28, q29, q30, q31, q32, q33, q34, q35, q36, q37, q38, q39, q40, q41, q42, q43, q44, q45, q46, q47, q48, q49, q50, q51, q52, q53, q54, q55, q56, q57, q58, q59, q60, q61, q62, q63, q64, q65, q66, q67, q68, q69, q70, q71, q72, q73, q74, q75, q76, q77, q78, q79, q80, q81, q82, q83, q84, q85, q86, q87, q88, q89, q90, q91, q92, q93, q94, q95, q96, q97, q98, q99, q100, q101, q102, q103, q104, q105, q106, q107, q108, q109, q110, q111, q112, q113, q114, q115, q116, q117, q118, q119, q120, q121, q122, q123, q124, q125, q126, q127, q128, q129, q130, q131, q132, q133, q134, q135, q136, q137, q138, q139, q140, q141, q142, q143, q144, q145, q146, q147, q148, q149, q150, q151, q152, q153, q154, q155, q156, q157, q158, q159, q160, q161, q162, q163, q164, q165, q166, q167, q168, q169, q170, q171, q172, q173, q174, q175, q176, q177, q178, q179, q180, q181, q182, q183, q184, q185, q186, q187, q188, q189, q190, q191, q192, q193], []⟩ wZ := by
  have hrange : wZ.rangeAt X.nb 3 (tabL T) := by
    intro j v hj
    unfold tabL at hj
    rw [List.getElem?_map] at hj
    by_cases hjl : j < 256
    · rw [List.getElem?_range hjl] at hj
      simp only [Option.map_some, Option.some.injEq] at hj
      rw [hF.node.row.cell (by omega), ndF_t hjl, hj]
    · rw [List.getElem?_eq_none (by simp; omega)] at hj
      cases hj
  have HF := hide hF
  clear hF
  conv => arg 2; simp only [mtail8, Ybaz.f4, Option.getD_some, sndSeq]
  dsimp only
  go_upto_region 10 with fail
  go_cut [106] (fun s106 wz => s106 = .bool false ∧ Below wZ.heap.size wZ wz)
  case first =>
    refine wp_region_held_drew (S := fun w' => w'.rangeAt X.nb 3 (tabL T)) (by kernel_rfl) hrange (fun hHeld => ?_)
    refine wpAnyH_take (i := 0) (oi := { dst := some 100, op := Op.move (Operand.tmp 16), type := 26, pos := "zz_law_s3498b.go:203", after := _, guard := none }) (v := ?_) rfl (by kernel_rfl) (by kernel_rfl) (by kernel_rfl) (fun _ _ _ h => h) (Or.inl ⟨by rfl, ?_⟩) (by assumption) ?_
    rotate_left 1
    · (intro w hSw; (try dsimp only at hSw); go_simp <;> with_reducible rfl)
    try simp only [Act.put, List.setIfInBounds_toArray, List.set_cons_zero, List.set_cons_succ]
    refine wpAnyH_take (i := 1) (oi := { dst := some 101, op := Op.nilCheck (Operand.tmp 100), type := 0, pos := "zz_law_s3498b.go:203", after := _, guard := none }) (v := ?_) rfl (by kernel_rfl) (by kernel_rfl) (by kernel_rfl) (fun _ _ _ h => h) (Or.inl ⟨by rfl, ?_⟩) (by assumption) ?_
    rotate_left 1
    · (intro w hSw; (try dsimp only at hSw); go_simp <;> with_reducible rfl)
    try simp only [Act.put, List.setIfInBounds_toArray, List.set_cons_zero, List.set_cons_succ]
    refine wpAnyH_take (i := 2) (oi := { dst := some 102, op := Op.fieldAddr 63 (Operand.tmp 101) 3, type := 0, pos := "zz_law_s3498b.go:203", after := _, guard := none }) (v := ?_) rfl (by kernel_rfl) (by kernel_rfl) (by kernel_rfl) (fun _ _ _ h => h) (Or.inl ⟨by rfl, ?_⟩) (by assumption) ?_
    rotate_left 1
    · (intro w hSw; (try dsimp only at hSw); go_simp <;> with_reducible rfl)
    try simp only [Act.put, List.setIfInBounds_toArray, List.set_cons_zero, List.set_cons_succ]
    refine wpAnyH_take (i := 3) (oi := { dst := some 103, op := Op.load 45 (Operand.tmp 102), type := 45, pos := "zz_law_s3498b.go:203", after := _, guard := none }) rfl (by kernel_rfl) (by kernel_rfl) (by kernel_rfl) (fun _ _ _ h => h) (yieldsIf_load_mid (by rfl) _ _ rfl X.nb 3 rfl (tabL T) _ (fun w h => h) Ybaz.underlying45 rfl (by rw [tabL_len]; kernel_rfl)) (by assumption) ?_
    try simp only [Act.put, List.setIfInBounds_toArray, List.set_cons_zero, List.set_cons_succ]
    refine wpAnyH_take (i := 4) (oi := { dst := some 104, op := Op.move (Operand.tmp 15), type := 24, pos := "zz_law_s3498b.go:203", after := _, guard := none }) (v := ?_) rfl (by kernel_rfl) (by kernel_rfl) (by kernel_rfl) (fun _ _ _ h => h) (Or.inl ⟨by rfl, ?_⟩) (by assumption) ?_
    rotate_left 1
    · (intro w hSw; (try dsimp only at hSw); go_simp <;> with_reducible rfl)
    try simp only [Act.put, List.setIfInBounds_toArray, List.set_cons_zero, List.set_cons_succ]
    refine wpAnyH_ready (rs := [5]) (by kernel_rfl) (by simp) ?_
    refine AllReadyH.cons (o := { dst := some 105, op := Op.call { callee := Callee.value (Operand.func 9), args := #[Operand.tmp 104], argTypes := #[24] }, type := 45, pos := "zz_law_s3498b.go:203", after := _, guard := none }) rfl (fun K hK => ?_) AllReadyH.nil
    go_simp
    refine (exptable_any (w := wZ.drew) ((unhide HF).same (((Same.refl _).drew).below _)).ws (unhide HF).hid (unhide HF).hinj (unhide HF).hcw (unhide HF).hN (unhide HF).hs).mono ?_
    rintro e w2 ⟨T2, rfl, hB2, hS2⟩
    have hTT : T2 = T := funext fun p => (hS2.unique (unhide HF).spec (fun j => mem_in2 (unhide HF).hl (unhide HF).flt) p)
    subst hTT
    try (go_wp2_with fail)
    refine hK.out _ _ (range_far hrange (hB2.block X.nb (unhide HF).node.row.lt)) (fun hHeld => ?_)
    clear hK K
    try simp only [Act.put, List.setIfInBounds_toArray, List.set_cons_zero, List.set_cons_succ]
    refine wpAnyH_take (i := 6) (oi := { dst := some 106, op := Op.binOp BinOp.neq 45 (Operand.tmp 103) (Operand.tmp 105) 45, type := 4, pos := "zz_law_s3498b.go:203", after := _, guard := none }) rfl (by kernel_rfl) (by kernel_rfl) (by kernel_rfl) (fun _ _ _ h => h) (yields_neq45 (by rfl) (Operand.tmp 103) (Operand.tmp 105) 45 rfl T2 rfl rfl) (by assumption) ?_
    try simp only [Act.put, List.setIfInBounds_toArray, List.set_cons_zero, List.set_cons_succ]
    refine wpAnyH_done (by kernel_rfl) ?_ _
    go_wp2_with fail
    go_meet
    exact ⟨rfl, (((Same.refl wZ).drew).below _).trans hB2⟩
  case rest =>
    obtain ⟨rfl, hBz⟩ := hcut
    rename World => wz
    clear hrange
    go_upto_if 106 with fail
    go_cut [] (fun wy => wy = wz)
    case first =>
      go_wp2_with fail
      go_meet
      rfl
    case rest =>
      obtain rfl := hcut
      exact (by assumption : ∀ (a : Act) (w0 : World), Code.wp Ybaz.prog mtail9 (bodyPost Ybaz.prog Ybaz.f4 fun e w' => e = .returned (.bool true) ∧ Below w.heap.size w w') a w0 → _) _ _ (m_t9 ((unhide HF).same hBz))

set_option maxHeartbeats 4000000 in
set_option maxRecDepth 100000 in
theorem m_t7 {w wZ : World} {wsb lgb : Nat} {X : Cx} {Y : Ex} {T : Nat → Int} {C : Nat → Nat} {ed : Int} {F rr : Nat → Value} {askS awS : Int → Bool} {na nw m : Nat} {L : List LogE} {lv : Value} (hF : FY w wZ wsb lgb X Y T C ed F rr askS awS na nw m L lv) {q0 q1 q2 q3 q4 q5 q6 q7 q8 q9 q10 q11 q12 q13 q14 q19 q20 q21 q22 q23 q24 q25 q26 q27 q28 q29 q30 q31 q32 q33 q34 q35 q36 q37 q38 q39 q40 q41 q42 q43 q44 q45 q46 q47 q48 q49 q50 q51 q52 q53 q54 q55 q56 q57 q58 q59 q60 q61 q62 q63 q64 q65 q66 q67 q68 q69 q70 q71 q72 q73 q74 q75 q76 q77 q78 q79 q80 q81 q82 q83 q84 q85 q86 q87 q88 q89 q90 q91 q92 q93 q94 q95 q96 q97 q98 q99 q100 q101 q102 q103 q104 q105 q106 q107 q108 q109 q110 q111 q112 q113 q114 q115 q116 q117 q118 q119 q120 q121 q122 q123 q124 q125 q126 q127 q128 q129 q130 q131 q132 q133 q134 q135 q136 q137 q138 q139 q140 q141 q142 q143 q144 q145 q146 q147 q148 q149 q150 q151 q152 q153 q154 q155 q156 q157 q158 q159 q160 q161 q162 q163 q164 q165 q166 q167 q168 q169 q170 q171 q172 q173 q174 q175 q176 q177 q178 q179 q180 q181 q182 q183 q184 q185 q186 q187 q188 q189 q190 q191 q192 q193 : Value} :
    Code.wp Ybaz.prog mtail7 (bodyPost Ybaz.prog Ybaz.f4 fun e w' => e = .returned (.bool true) ∧ Below w.heap.size w w') ⟨#[q0, q1, q2, q3, q4, q5, q6, q7, q8, q9, q10, q11, q12, q13, q14, .pointer (some ⟨wsb, 0, none⟩), .pointer (some ⟨X.nb, 0, none⟩), .pointer (some ⟨X.jb, 0, none⟩), .pointer (some ⟨lgb, 0, none⟩), q19, q20, q21, q22, q23, q24, q25, q26, q27, q28, q29, q30, q31, q32, q33, q34, q35, q36, q37, q38, q39, q40, q41, q42, q43, q44, q45, q46, q47, q48, q49, q50, q51, q52, q53, q54, q55, q56, q57, q58, q59, q60, q61, q62, q63, q64, q65, q66, q67, q68, q69, q70, q71, q72, q73, q74, q75, q76, q77, q78, q79, q80, q81, q82, q83, q84, q85, q86, q87, q88, q89, q90, q91, q92, q93, q94, q95, q96, q97, q98, q99, q100, q101, q102, q103, q104, q105, q106, q107, q108, q109, q110, q111, q112, q113, q114, q115, q116, q117, q118, q119, q120, q121, q122, q123, q124, q125, q126, q127, q128, q129, q130, q131, q132, q133, q134, q135, q136, q137, q138, q139, q140, q141, q142, q143, q144, q145, q146, q147, q148, q149, q150, q151, q152, q153, q154, q155, q156, q157, q158, q159, q160, q161, q162, q163, q164, q165, q166, q167, q168, q169, q170, q171, q172, q173, q174, q175, q176, q177, q178, q179, q180, q181, q182, q183, q184, q185, q186, q187, q188, q189, q190, q191, q192, q193], []⟩ wZ := by
  have hN := hF.hN
  have hsnd := hF.hsnd
  have c519 : wZ.cell? ⟨X.nb, 519, none⟩ = some (.int .i64 1) := (hF.node.row.cell (by omega)).trans (by simp [ndF, hF.r519])
  have g2 : wZ.cell? ⟨X.jb, 2, none⟩ = some (.map (some Y.ab)) := (hF.jrow.cell (by omega)).trans (by rw [hF.f2])
  have c5 := hF.c5
  have lkA := fun n => (hF.same (((Same.refl wZ).drewN n).below _)).asked.look (j := ((X.snd : Nat) : Int)) (iwf (by omega) (by omega))
  simp only [hF.asnd] at lkA
  have HF := hide hF
  clear hF
  conv => arg 2; simp only [mtail7, Ybaz.f4, Option.getD_some, sndSeq]
  dsimp only
  go_upto_region 8 with fail
  go_cut [99] (fun s99 wq => s99 = .bool false ∧ Same wZ wq)
  case first =>
    go_big_quiet (fail)
    go_wp2_with fail
    go_meet
    exact ⟨rfl, (Same.refl _).drewN _⟩
  case rest =>
    obtain ⟨rfl, hSm⟩ := hcut
    rename World => wq
    clear c519 g2 c5 lkA
    go_upto_if 99 with fail
    go_cut [] (fun wy => wy = wq)
    case first =>
      go_wp2_with fail
      go_meet
      rfl
    case rest =>
      obtain rfl := hcut
      exact (by assumption : ∀ (a : Act) (w0 : World), Code.wp Ybaz.prog mtail8 (bodyPost Ybaz.prog Ybaz.f4 fun e w' => e = .returned (.bool true) ∧ Below w.heap.size w w') a w0 → _) _ _ (m_t8 ((unhide HF).same (hSm.below _)))


end Go.Proofs.YbulkbtkoGreatFmt

import Derived.Test.YbulkbtikNext
namespace Go.Proofs.Ybulkbtik
open Go.Conc Go.RowKit Go.MuLone
set_option linter.unusedVariables false
set_option linter.unusedSimpArgs false

/-- What next reads of the run. -/
structure Cfg (g : Nat → Value) (ve vw vg : Nat) (he hw : Bool) : Prop where
  g0 : g 0 = .float .f64 ve
  g1 : g 1 = .bool he
  g6 : g 6 = .float .f64 vw
  g7 : g 7 = .bool hw
  g278 : g 278 = .int .i64 0
  g289 : g 289 = .float .f64 vg

def cfgL (g : Nat → Value) (ve vw : Nat) (he hw : Bool) : List Value := [.float .f64 ve, .bool he, g 2, g 3, g 4, g 5, .float .f64 vw, .bool hw, g 8, g 9]

theorem cfg_range {w : World} {rb : Nat} {g : Nat → Value} {ve vw vg : Nat} {he hw : Bool} (hg : w.rowIs rb 106 307 g) (hc : Cfg g ve vw vg he hw) : w.rangeAt rb 0 (cfgL g ve vw he hw) := by
  intro j v hj
  have hj10 : j < 10 := by
    apply Decidable.byContradiction
    intro h
    rw [List.getElem?_eq_none (by simp [cfgL]; omega)] at hj
    cases hj
  rw [Nat.zero_add, hg.cell (by omega)]
  match j, hj10, hj with
  | 0, _, hj => rw [hc.g0]; exact hj
  | 1, _, hj => rw [hc.g1]; exact hj
  | 2, _, hj => exact hj
  | 3, _, hj => exact hj
  | 4, _, hj => exact hj
  | 5, _, hj => exact hj
  | 6, _, hj => rw [hc.g6]; exact hj
  | 7, _, hj => rw [hc.g7]; exact hj
  | 8, _, hj => exact hj
  | 9, _, hj => exact hj

def mayGo (he hw : Bool) (x y W G : Int) : Bool := !(he && decide (y ≤ x)) && !(hw && decide (W < x - G))

theorem next_none (wb : Nat) (w : World) (h : w.cell? ⟨wb, 135, none⟩ = some (.slice none 0 0)) :
    Calls Yba.prog 18 #[.pointer (some ⟨wb, 0, none⟩)] w fun e w' => e = .returned (.bool false) ∧ Below w.heap.size w w' := by
  go_enter Yba.func18, Yba.ntmps18
  go_wp2_with fail
  refine (first_none wb w h).mono ?_
  rintro e w1 ⟨rfl, hB⟩
  go_wp2_with (first
    | (guard_target = wpList _ _ _ (⟨_, Op.store 67 _ _, _, _, _, _⟩ :: _) _ _; go_must (refine wpList_store_mid rfl _ _ _ rfl w1.heap.size 0 (keyOf 0) rfl rfl (there_new w1 _ 67 4 _ rfl (Nat.le_refl _)) info67 (key_one 0) ?_))
    | go_in)
  go_ret
  exact ⟨rfl, below_more hB (below_setCells _ (Nat.le_refl _) _ _ ((Below.refl _ _).alloc (Nat.le_refl _) _))⟩

set_option maxHeartbeats 4000000 in
theorem next_some {w : World} {wb rb qb cap v ve vw vg : Nat} {s4 : Value} {f g : Nat → Value} {he hw : Bool} {x y W G : Int} (hf : w.rowIs wb 57 279 f) (hg : w.rowIs rb 106 307 g)
    (f134 : f 134 = .pointer (some ⟨rb, 0, none⟩)) (f135 : f 135 = .slice (some ⟨qb, 0, none⟩) 1 cap) (f138 : f 138 = .int .i64 0) (q : w.rangeAt qb 0 (slL v s4)) (hc : Cfg g ve vw vg he hw)
    (hx : Reads v x) (hy : Reads ve y) (hW : Reads vw W) (hG : Reads vg G) (bx : -32768 ≤ x ∧ x ≤ 32767) (bG : -32768 ≤ G ∧ G ≤ 32767) :
    Calls Yba.prog 18 #[.pointer (some ⟨wb, 0, none⟩)] w fun e w' => e = .returned (.bool (mayGo he hw x y W G)) ∧ Below w.heap.size w w' := by
  obtain ⟨r, hr, hrd⟩ := sub_reads hx hG (by omega)
  have hsub := fun w => run_float_arith (P := Yba.prog) w .sub 55 .f64 v vg r hr
  have hgt := gt_of hrd hW
  have hRC := hide (cfg_range hg hc)
  go_enter Yba.func18, Yba.ntmps18
  go_wp2_with fail
  refine (first_some wb qb cap v s4 w ((hf.cell (by omega)).trans (by rw [f135])) ((hf.cell (by omega)).trans (by rw [f138])) q).mono ?_
  rintro e w1 ⟨rfl, hB⟩
  go_upto_region 4 with (first
    | (guard_target = wpList _ _ _ (⟨_, Op.store 67 _ _, _, _, _, _⟩ :: _) _ _; go_must (refine wpList_store_mid rfl _ _ _ rfl w1.heap.size 0 (keyOf v) rfl rfl (there_new w1 _ 67 4 _ rfl (Nat.le_refl _)) info67 (key_one v) ?_))
    | go_in)
  have hE : Below w1.heap.size w1 ((w1.alloc (.cells #[.float .f64 0, .int .u64 0, .int .u64 0, .int .u64 0] 67)).setCells w1.heap.size 0 (keyOf v).toList) := below_setCells _ (Nat.le_refl _) _ _ ((Below.refl _ _).alloc (Nat.le_refl _) _)
  have hR : Hid (((w1.alloc (.cells #[.float .f64 0, .int .u64 0, .int .u64 0, .int .u64 0] 67)).setCells w1.heap.size 0 (keyOf v).toList).rangeAt w1.heap.size 0 (keyL v)) := World.rangeAt_setCells_same _ w1.heap.size 0 (keyL v) (there_new w1 _ 67 4 _ rfl (Nat.le_refl _))
  generalize (w1.alloc (.cells #[.float .f64 0, .int .u64 0, .int .u64 0, .int .u64 0] 67)).setCells w1.heap.size 0 (keyOf v).toList = wK at hE hR ⊢
  have hBK := below_more hB hE
  have HBK := hide hBK
  have c134 := cell_stays hBK ((hf.cell (i := 134) (by omega)).trans (by rw [f134]))
  have c278 := cell_stays hBK ((hg.cell (i := 278) (by omega)).trans (by rw [hc.g278]))
  have c289 := cell_stays hBK ((hg.cell (i := 289) (by omega)).trans (by rw [hc.g289]))
  have c6 := cell_stays hBK ((hg.cell (i := 6) (by omega)).trans (by rw [hc.g6]))
  have c7 := cell_stays hBK ((hg.cell (i := 7) (by omega)).trans (by rw [hc.g7]))
  have hRK := hide (rangeAt_below (unhide hRC) hBK)
  have k0 : wK.cell? ⟨w1.heap.size, 0, none⟩ = some (.float .f64 v) := unhide hR 0 _ rfl
  have hbw := World.block_lt_of_cell? _ _ c134
  have hbr := World.block_lt_of_cell? _ _ c278
  have hbk := World.block_lt_of_cell? _ _ k0
  clear hE hBK hB hRC hr
  have KS : Hid (∀ w', Below wK.heap.size wK w' → (w'.cell? ⟨wb, 134, none⟩ = some (.pointer (some ⟨rb, 0, none⟩)) ∧ w'.rangeAt rb 0 (cfgL g ve vw he hw) ∧ w'.cell? ⟨w1.heap.size, 0, none⟩ = some (.float .f64 v))) := fun w' hb => ⟨cell_stays hb c134, rangeAt_below (unhide hRK) hb, cell_stays hb k0⟩
  try simp only [Act.put]
  refine wp_region_held_drew (S := fun w' => w'.cell? ⟨wb, 134, none⟩ = some (.pointer (some ⟨rb, 0, none⟩)) ∧ w'.rangeAt rb 0 (cfgL g ve vw he hw) ∧ w'.cell? ⟨w1.heap.size, 0, none⟩ = some (.float .f64 v)) (by kernel_rfl) (unhide KS _ ((Below.refl _ _).drew)) (fun hHeld => ?_)
  refine wpAnyH_take (i := 0) (oi := { dst := some 12, op := Op.move (Operand.tmp 0), type := 24, pos := "optimistic.go:526", after := _, guard := none }) (v := ?_) rfl (by kernel_rfl) (by kernel_rfl) (by kernel_rfl) (fun _ _ _ h => h) (Or.inl ⟨by rfl, ?_⟩) (by assumption) ?_
  rotate_left 1
  · (intro w hSw; (try dsimp only at hSw); go_simp <;> with_reducible rfl)
  try simp only [Act.put, List.setIfInBounds_toArray, List.set_cons_zero, List.set_cons_succ]
  refine wpAnyH_take (i := 1) (oi := { dst := some 13, op := Op.nilCheck (Operand.tmp 12), type := 0, pos := "optimistic.go:526", after := _, guard := none }) (v := ?_) rfl (by kernel_rfl) (by kernel_rfl) (by kernel_rfl) (fun _ _ _ h => h) (Or.inl ⟨by rfl, ?_⟩) (by assumption) ?_
  rotate_left 1
  · (intro w hSw; (try dsimp only at hSw); go_simp <;> with_reducible rfl)
  try simp only [Act.put, List.setIfInBounds_toArray, List.set_cons_zero, List.set_cons_succ]
  refine wpAnyH_take (i := 2) (oi := { dst := some 14, op := Op.fieldAddr 57 (Operand.tmp 13) 2, type := 0, pos := "optimistic.go:526", after := _, guard := none }) (v := ?_) rfl (by kernel_rfl) (by kernel_rfl) (by kernel_rfl) (fun _ _ _ h => h) (Or.inl ⟨by rfl, ?_⟩) (by assumption) ?_
  rotate_left 1
  · (intro w hSw; (try dsimp only at hSw); go_simp <;> with_reducible rfl)
  try simp only [Act.put, List.setIfInBounds_toArray, List.set_cons_zero, List.set_cons_succ]
  refine wpAnyH_take (i := 3) (oi := { dst := some 15, op := Op.load 45 (Operand.tmp 14), type := 45, pos := "optimistic.go:526", after := _, guard := none }) (v := ?_) rfl (by kernel_rfl) (by kernel_rfl) (by kernel_rfl) (fun _ _ _ h => h) (Or.inl ⟨by rfl, ?_⟩) (by assumption) ?_
  rotate_left 1
  · (intro w hSw; (try dsimp only at hSw); go_simp <;> with_reducible rfl)
  try simp only [Act.put, List.setIfInBounds_toArray, List.set_cons_zero, List.set_cons_succ]
  refine wpAnyH_take (i := 4) (oi := { dst := some 16, op := Op.nilCheck (Operand.tmp 15), type := 0, pos := "optimistic.go:526", after := _, guard := none }) (v := ?_) rfl (by kernel_rfl) (by kernel_rfl) (by kernel_rfl) (fun _ _ _ h => h) (Or.inl ⟨by rfl, ?_⟩) (by assumption) ?_
  rotate_left 1
  · (intro w hSw; (try dsimp only at hSw); go_simp <;> with_reducible rfl)
  try simp only [Act.put, List.setIfInBounds_toArray, List.set_cons_zero, List.set_cons_succ]
  refine wpAnyH_take (i := 5) (oi := { dst := some 17, op := Op.fieldAddr 106 (Operand.tmp 16) 0, type := 0, pos := "optimistic.go:526", after := _, guard := none }) (v := ?_) rfl (by kernel_rfl) (by kernel_rfl) (by kernel_rfl) (fun _ _ _ h => h) (Or.inl ⟨by rfl, ?_⟩) (by assumption) ?_
  rotate_left 1
  · (intro w hSw; (try dsimp only at hSw); go_simp <;> with_reducible rfl)
  try simp only [Act.put, List.setIfInBounds_toArray, List.set_cons_zero, List.set_cons_succ]
  refine wpAnyH_take (i := 6) (oi := { dst := some 18, op := Op.load 79 (Operand.tmp 17), type := 79, pos := "optimistic.go:526", after := _, guard := none }) rfl (by kernel_rfl) (by kernel_rfl) (by kernel_rfl) (fun _ _ _ h => h) (yieldsIf_load_mid (by rfl) _ _ rfl rb 0 rfl (cfgL g ve vw he hw) _ (fun w h => h.2.1) Yba.underlying79 rfl info79) (by assumption) ?_
  try simp only [Act.put, List.setIfInBounds_toArray, List.set_cons_zero, List.set_cons_succ]
  refine wpAnyH_take (i := 7) (oi := { dst := some 19, op := Op.fieldAddr 67 (Operand.tmp 3) 0, type := 0, pos := "optimistic.go:526", after := _, guard := none }) (v := ?_) rfl (by kernel_rfl) (by kernel_rfl) (by kernel_rfl) (fun _ _ _ h => h) (Or.inl ⟨by rfl, ?_⟩) (by assumption) ?_
  rotate_left 1
  · (intro w hSw; (try dsimp only at hSw); go_simp <;> with_reducible rfl)
  try simp only [Act.put, List.setIfInBounds_toArray, List.set_cons_zero, List.set_cons_succ]
  refine wpAnyH_take (i := 8) (oi := { dst := some 20, op := Op.load 55 (Operand.tmp 19), type := 55, pos := "optimistic.go:526", after := _, guard := none }) (v := ?_) rfl (by kernel_rfl) (by kernel_rfl) (by kernel_rfl) (fun _ _ _ h => h) (Or.inl ⟨by rfl, ?_⟩) (by assumption) ?_
  rotate_left 1
  · (intro w hSw; (try dsimp only at hSw); go_simp <;> with_reducible rfl)
  try simp only [Act.put, List.setIfInBounds_toArray, List.set_cons_zero, List.set_cons_succ]
  refine wpAnyH_ready (rs := [9]) (by kernel_rfl) (by simp) ?_
  refine AllReadyH.cons (o := { dst := some 21, op := Op.call { callee := Callee.value (Operand.func 24), args := #[Operand.tmp 18, Operand.tmp 20], argTypes := #[79, 55] }, type := 4, pos := "optimistic.go:526", after := _, guard := none }) rfl (fun K hK => ?_) AllReadyH.nil
  go_simp
  refine (ended_any ve v y x he (g 2) (g 3) (g 4) (g 5) (.float .f64 vw) (.bool hw) (g 8) (g 9) _ hy hx).mono ?_
  rintro e w2 ⟨rfl, hB2⟩
  have hB3 := below_more ((Below.refl wK.heap.size wK).drew) hB2
  try (go_wp2_with fail)
  refine hK.out _ _ (unhide KS _ hB3) (fun hHeld => ?_)
  clear hK K
  try simp only [Act.put, List.setIfInBounds_toArray, List.set_cons_zero, List.set_cons_succ]
  refine wpAnyH_done (by kernel_rfl) ?_ _
  have HB3 := hide hB3
  have d134 := cell_stays hB3 c134
  have d278 := cell_stays hB3 c278
  have d289 := cell_stays hB3 c289
  have d6 := cell_stays hB3 c6
  have d7 := cell_stays hB3 c7
  have j0 := cell_stays hB3 k0
  have jR := hide (rangeAt_below (unhide hR) hB3)
  have hbw2 := World.block_lt_of_cell? _ _ d134
  clear hB3 hB2 c134 c278 c289 c6 c7 k0 KS
  cases he
  · have hm0 := Bool.false_and (decide (y ≤ x))
    simp only [Bool.false_and]
    clear hm0
    cases hw
    · go_upto_region 6 with fail
      go_big_quiet (fail)
      go_upto_region 8 with fail
      have KS8 : Hid (∀ w', Below (w2.drewN nq).heap.size (w2.drewN nq) w' → (w'.cell? ⟨wb, 134, none⟩ = some (.pointer (some ⟨rb, 0, none⟩)) ∧ w'.rangeAt w1.heap.size 0 (keyL v) ∧ w'.cell? ⟨rb, 278, none⟩ = some (.int .i64 0))) := fun w' hb => ⟨cell_stays hb d134, (fun j u hj => cell_stays hb (unhide jR j u hj)), cell_stays hb d278⟩
      refine wp_region_held_drew (S := fun w' => w'.cell? ⟨wb, 134, none⟩ = some (.pointer (some ⟨rb, 0, none⟩)) ∧ w'.rangeAt w1.heap.size 0 (keyL v) ∧ w'.cell? ⟨rb, 278, none⟩ = some (.int .i64 0)) (by kernel_rfl) (unhide KS8 _ ((Below.refl _ _).drew)) (fun hHeld => ?_)
      refine wpAnyH_take (i := 0) (oi := { dst := some 51, op := Op.move (Operand.tmp 0), type := 24, pos := "optimistic.go:532", after := _, guard := none }) (v := ?_) rfl (by kernel_rfl) (by kernel_rfl) (by kernel_rfl) (fun _ _ _ h => h) (Or.inl ⟨by rfl, ?_⟩) (by assumption) ?_
      rotate_left 1
      · (intro w hSw; (try dsimp only at hSw); go_simp <;> with_reducible rfl)
      try simp only [Act.put, List.setIfInBounds_toArray, List.set_cons_zero, List.set_cons_succ]
      refine wpAnyH_take (i := 1) (oi := { dst := some 52, op := Op.nilCheck (Operand.tmp 51), type := 0, pos := "optimistic.go:532", after := _, guard := none }) (v := ?_) rfl (by kernel_rfl) (by kernel_rfl) (by kernel_rfl) (fun _ _ _ h => h) (Or.inl ⟨by rfl, ?_⟩) (by assumption) ?_
      rotate_left 1
      · (intro w hSw; (try dsimp only at hSw); go_simp <;> with_reducible rfl)
      try simp only [Act.put, List.setIfInBounds_toArray, List.set_cons_zero, List.set_cons_succ]
      refine wpAnyH_take (i := 2) (oi := { dst := some 53, op := Op.fieldAddr 57 (Operand.tmp 52) 2, type := 0, pos := "optimistic.go:532", after := _, guard := none }) (v := ?_) rfl (by kernel_rfl) (by kernel_rfl) (by kernel_rfl) (fun _ _ _ h => h) (Or.inl ⟨by rfl, ?_⟩) (by assumption) ?_
      rotate_left 1
      · (intro w hSw; (try dsimp only at hSw); go_simp <;> with_reducible rfl)
      try simp only [Act.put, List.setIfInBounds_toArray, List.set_cons_zero, List.set_cons_succ]
      refine wpAnyH_take (i := 3) (oi := { dst := some 54, op := Op.load 45 (Operand.tmp 53), type := 45, pos := "optimistic.go:532", after := _, guard := none }) (v := ?_) rfl (by kernel_rfl) (by kernel_rfl) (by kernel_rfl) (fun _ _ _ h => h) (Or.inl ⟨by rfl, ?_⟩) (by assumption) ?_
      rotate_left 1
      · (intro w hSw; (try dsimp only at hSw); go_simp <;> with_reducible rfl)
      try simp only [Act.put, List.setIfInBounds_toArray, List.set_cons_zero, List.set_cons_succ]
      refine wpAnyH_take (i := 4) (oi := { dst := some 55, op := Op.nilCheck (Operand.tmp 54), type := 0, pos := "optimistic.go:532", after := _, guard := none }) (v := ?_) rfl (by kernel_rfl) (by kernel_rfl) (by kernel_rfl) (fun _ _ _ h => h) (Or.inl ⟨by rfl, ?_⟩) (by assumption) ?_
      rotate_left 1
      · (intro w hSw; (try dsimp only at hSw); go_simp <;> with_reducible rfl)
      try simp only [Act.put, List.setIfInBounds_toArray, List.set_cons_zero, List.set_cons_succ]
      refine wpAnyH_take (i := 5) (oi := { dst := some 56, op := Op.fieldAddr 106 (Operand.tmp 55) 13, type := 0, pos := "optimistic.go:532", after := _, guard := none }) (v := ?_) rfl (by kernel_rfl) (by kernel_rfl) (by kernel_rfl) (fun _ _ _ h => h) (Or.inl ⟨by rfl, ?_⟩) (by assumption) ?_
      rotate_left 1
      · (intro w hSw; (try dsimp only at hSw); go_simp <;> with_reducible rfl)
      try simp only [Act.put, List.setIfInBounds_toArray, List.set_cons_zero, List.set_cons_succ]
      refine wpAnyH_take (i := 6) (oi := { dst := some 57, op := Op.load 67 (Operand.tmp 3), type := 67, pos := "optimistic.go:532", after := _, guard := none }) rfl (by kernel_rfl) (by kernel_rfl) (by kernel_rfl) (fun _ _ _ h => h) (yieldsIf_load_mid (by rfl) _ _ rfl w1.heap.size 0 rfl (keyL v) _ (fun w h => h.2.1) Yba.underlying67 rfl info67) (by assumption) ?_
      try simp only [Act.put, List.setIfInBounds_toArray, List.set_cons_zero, List.set_cons_succ]
      refine wpAnyH_ready (rs := [7]) (by kernel_rfl) (by simp) ?_
      refine AllReadyH.cons (o := { dst := some 58, op := Op.call { callee := Callee.value (Operand.func 25), args := #[Operand.tmp 56, Operand.tmp 57], argTypes := #[94, 67] }, type := 4, pos := "optimistic.go:532", after := _, guard := none }) rfl (fun K hK => ?_) AllReadyH.nil
      go_simp
      refine (bar_any rb 278 (.float .f64 v) (.int .u64 0) (.int .u64 0) (.int .u64 0) _ hHeld.2.2).mono ?_
      rintro e w5 ⟨rfl, hB5⟩
      have hB6 := below_more ((Below.refl (w2.drewN nq).heap.size (w2.drewN nq)).drew) hB5
      try (go_wp2_with fail)
      refine hK.out _ _ (unhide KS8 _ hB6) (fun hHeld => ?_)
      clear hK K
      try simp only [Act.put, List.setIfInBounds_toArray, List.set_cons_zero, List.set_cons_succ]
      refine wpAnyH_take (i := 8) (oi := { dst := some 59, op := Op.unOp UnOp.not 4 (Operand.tmp 58), type := 4, pos := "optimistic.go:532", after := _, guard := none }) (v := ?_) rfl (by kernel_rfl) (by kernel_rfl) (by kernel_rfl) (fun _ _ _ h => h) (Or.inl ⟨by rfl, ?_⟩) (by assumption) ?_
      rotate_left 1
      · (intro w hSw; (try dsimp only at hSw); go_simp <;> with_reducible rfl)
      try simp only [Act.put, List.setIfInBounds_toArray, List.set_cons_zero, List.set_cons_succ]
      refine wpAnyH_take (i := 9) (oi := { dst := some 2, op := Op.assign (Operand.tmp 59), type := 4, pos := "optimistic.go:532", after := _, guard := none }) (v := ?_) rfl (by kernel_rfl) (by kernel_rfl) (by kernel_rfl) (fun _ _ _ h => h) (Or.inl ⟨by rfl, ?_⟩) (by assumption) ?_
      rotate_left 1
      · (intro w hSw; (try dsimp only at hSw); go_simp <;> with_reducible rfl)
      try simp only [Act.put, List.setIfInBounds_toArray, List.set_cons_zero, List.set_cons_succ]
      refine wpAnyH_done (by kernel_rfl) ?_ _
      go_wp2_with fail
      go_ret
      refine ⟨?_, below_more (below_more (unhide HBK) (unhide HB3)) (below_more (below_drewN (Below.refl _ _) nq) hB6)⟩
      simp [mayGo, Bool.false_and]
    · by_cases hgx : W < x - G
      · have dg : decide (W < x - G) = true := by simp [hgx]
        have Hgx := hide hgx
        clear hgx
        rw [dg] at hgt
        go_upto_region 6 with fail
        go_big_quiet (fail)
        go_wp2_with fail
        go_ret
        refine ⟨?_, below_more (below_more (unhide HBK) (unhide HB3)) (below_drewN (Below.refl _ _) nq)⟩
        simp [mayGo, Bool.false_and, unhide Hgx]
      · have dg : decide (W < x - G) = false := by simp; omega
        have Hgx := hide hgx
        clear hgx
        rw [dg] at hgt
        go_upto_region 6 with fail
        go_big_quiet (fail)
        go_upto_region 8 with fail
        have KS8 : Hid (∀ w', Below (w2.drewN nq).heap.size (w2.drewN nq) w' → (w'.cell? ⟨wb, 134, none⟩ = some (.pointer (some ⟨rb, 0, none⟩)) ∧ w'.rangeAt w1.heap.size 0 (keyL v) ∧ w'.cell? ⟨rb, 278, none⟩ = some (.int .i64 0))) := fun w' hb => ⟨cell_stays hb d134, (fun j u hj => cell_stays hb (unhide jR j u hj)), cell_stays hb d278⟩
        refine wp_region_held_drew (S := fun w' => w'.cell? ⟨wb, 134, none⟩ = some (.pointer (some ⟨rb, 0, none⟩)) ∧ w'.rangeAt w1.heap.size 0 (keyL v) ∧ w'.cell? ⟨rb, 278, none⟩ = some (.int .i64 0)) (by kernel_rfl) (unhide KS8 _ ((Below.refl _ _).drew)) (fun hHeld => ?_)
        refine wpAnyH_take (i := 0) (oi := { dst := some 51, op := Op.move (Operand.tmp 0), type := 24, pos := "optimistic.go:532", after := _, guard := none }) (v := ?_) rfl (by kernel_rfl) (by kernel_rfl) (by kernel_rfl) (fun _ _ _ h => h) (Or.inl ⟨by rfl, ?_⟩) (by assumption) ?_
        rotate_left 1
        · (intro w hSw; (try dsimp only at hSw); go_simp <;> with_reducible rfl)
        try simp only [Act.put, List.setIfInBounds_toArray, List.set_cons_zero, List.set_cons_succ]
        refine wpAnyH_take (i := 1) (oi := { dst := some 52, op := Op.nilCheck (Operand.tmp 51), type := 0, pos := "optimistic.go:532", after := _, guard := none }) (v := ?_) rfl (by kernel_rfl) (by kernel_rfl) (by kernel_rfl) (fun _ _ _ h => h) (Or.inl ⟨by rfl, ?_⟩) (by assumption) ?_
        rotate_left 1
        · (intro w hSw; (try dsimp only at hSw); go_simp <;> with_reducible rfl)
        try simp only [Act.put, List.setIfInBounds_toArray, List.set_cons_zero, List.set_cons_succ]
        refine wpAnyH_take (i := 2) (oi := { dst := some 53, op := Op.fieldAddr 57 (Operand.tmp 52) 2, type := 0, pos := "optimistic.go:532", after := _, guard := none }) (v := ?_) rfl (by kernel_rfl) (by kernel_rfl) (by kernel_rfl) (fun _ _ _ h => h) (Or.inl ⟨by rfl, ?_⟩) (by assumption) ?_
        rotate_left 1
        · (intro w hSw; (try dsimp only at hSw); go_simp <;> with_reducible rfl)
        try simp only [Act.put, List.setIfInBounds_toArray, List.set_cons_zero, List.set_cons_succ]
        refine wpAnyH_take (i := 3) (oi := { dst := some 54, op := Op.load 45 (Operand.tmp 53), type := 45, pos := "optimistic.go:532", after := _, guard := none }) (v := ?_) rfl (by kernel_rfl) (by kernel_rfl) (by kernel_rfl) (fun _ _ _ h => h) (Or.inl ⟨by rfl, ?_⟩) (by assumption) ?_
        rotate_left 1
        · (intro w hSw; (try dsimp only at hSw); go_simp <;> with_reducible rfl)
        try simp only [Act.put, List.setIfInBounds_toArray, List.set_cons_zero, List.set_cons_succ]
        refine wpAnyH_take (i := 4) (oi := { dst := some 55, op := Op.nilCheck (Operand.tmp 54), type := 0, pos := "optimistic.go:532", after := _, guard := none }) (v := ?_) rfl (by kernel_rfl) (by kernel_rfl) (by kernel_rfl) (fun _ _ _ h => h) (Or.inl ⟨by rfl, ?_⟩) (by assumption) ?_
        rotate_left 1
        · (intro w hSw; (try dsimp only at hSw); go_simp <;> with_reducible rfl)
        try simp only [Act.put, List.setIfInBounds_toArray, List.set_cons_zero, List.set_cons_succ]
        refine wpAnyH_take (i := 5) (oi := { dst := some 56, op := Op.fieldAddr 106 (Operand.tmp 55) 13, type := 0, pos := "optimistic.go:532", after := _, guard := none }) (v := ?_) rfl (by kernel_rfl) (by kernel_rfl) (by kernel_rfl) (fun _ _ _ h => h) (Or.inl ⟨by rfl, ?_⟩) (by assumption) ?_
        rotate_left 1
        · (intro w hSw; (try dsimp only at hSw); go_simp <;> with_reducible rfl)
        try simp only [Act.put, List.setIfInBounds_toArray, List.set_cons_zero, List.set_cons_succ]
        refine wpAnyH_take (i := 6) (oi := { dst := some 57, op := Op.load 67 (Operand.tmp 3), type := 67, pos := "optimistic.go:532", after := _, guard := none }) rfl (by kernel_rfl) (by kernel_rfl) (by kernel_rfl) (fun _ _ _ h => h) (yieldsIf_load_mid (by rfl) _ _ rfl w1.heap.size 0 rfl (keyL v) _ (fun w h => h.2.1) Yba.underlying67 rfl info67) (by assumption) ?_
        try simp only [Act.put, List.setIfInBounds_toArray, List.set_cons_zero, List.set_cons_succ]
        refine wpAnyH_ready (rs := [7]) (by kernel_rfl) (by simp) ?_
        refine AllReadyH.cons (o := { dst := some 58, op := Op.call { callee := Callee.value (Operand.func 25), args := #[Operand.tmp 56, Operand.tmp 57], argTypes := #[94, 67] }, type := 4, pos := "optimistic.go:532", after := _, guard := none }) rfl (fun K hK => ?_) AllReadyH.nil
        go_simp
        refine (bar_any rb 278 (.float .f64 v) (.int .u64 0) (.int .u64 0) (.int .u64 0) _ hHeld.2.2).mono ?_
        rintro e w5 ⟨rfl, hB5⟩
        have hB6 := below_more ((Below.refl (w2.drewN nq).heap.size (w2.drewN nq)).drew) hB5
        try (go_wp2_with fail)
        refine hK.out _ _ (unhide KS8 _ hB6) (fun hHeld => ?_)
        clear hK K
        try simp only [Act.put, List.setIfInBounds_toArray, List.set_cons_zero, List.set_cons_succ]
        refine wpAnyH_take (i := 8) (oi := { dst := some 59, op := Op.unOp UnOp.not 4 (Operand.tmp 58), type := 4, pos := "optimistic.go:532", after := _, guard := none }) (v := ?_) rfl (by kernel_rfl) (by kernel_rfl) (by kernel_rfl) (fun _ _ _ h => h) (Or.inl ⟨by rfl, ?_⟩) (by assumption) ?_
        rotate_left 1
        · (intro w hSw; (try dsimp only at hSw); go_simp <;> with_reducible rfl)
        try simp only [Act.put, List.setIfInBounds_toArray, List.set_cons_zero, List.set_cons_succ]
        refine wpAnyH_take (i := 9) (oi := { dst := some 2, op := Op.assign (Operand.tmp 59), type := 4, pos := "optimistic.go:532", after := _, guard := none }) (v := ?_) rfl (by kernel_rfl) (by kernel_rfl) (by kernel_rfl) (fun _ _ _ h => h) (Or.inl ⟨by rfl, ?_⟩) (by assumption) ?_
        rotate_left 1
        · (intro w hSw; (try dsimp only at hSw); go_simp <;> with_reducible rfl)
        try simp only [Act.put, List.setIfInBounds_toArray, List.set_cons_zero, List.set_cons_succ]
        refine wpAnyH_done (by kernel_rfl) ?_ _
        go_wp2_with fail
        go_ret
        refine ⟨?_, below_more (below_more (unhide HBK) (unhide HB3)) (below_more (below_drewN (Below.refl _ _) nq) hB6)⟩
        simp [mayGo, Bool.false_and]
        have := unhide Hgx
        omega
  · by_cases hyx : y ≤ x
    · have dy : decide (y ≤ x) = true := by simp [hyx]
      have Hyx := hide hyx
      clear hyx
      simp only [Bool.true_and, dy]
      go_wp2_with fail
      go_ret
      refine ⟨?_, below_more (unhide HBK) (unhide HB3)⟩
      simp [mayGo, unhide Hyx]
    · have dy : decide (y ≤ x) = false := by simp; omega
      have Hyx := hide hyx
      clear hyx
      simp only [Bool.true_and, dy]
      cases hw
      · go_upto_region 6 with fail
        go_big_quiet (fail)
        go_upto_region 8 with fail
        have KS8 : Hid (∀ w', Below (w2.drewN nq).heap.size (w2.drewN nq) w' → (w'.cell? ⟨wb, 134, none⟩ = some (.pointer (some ⟨rb, 0, none⟩)) ∧ w'.rangeAt w1.heap.size 0 (keyL v) ∧ w'.cell? ⟨rb, 278, none⟩ = some (.int .i64 0))) := fun w' hb => ⟨cell_stays hb d134, (fun j u hj => cell_stays hb (unhide jR j u hj)), cell_stays hb d278⟩
        refine wp_region_held_drew (S := fun w' => w'.cell? ⟨wb, 134, none⟩ = some (.pointer (some ⟨rb, 0, none⟩)) ∧ w'.rangeAt w1.heap.size 0 (keyL v) ∧ w'.cell? ⟨rb, 278, none⟩ = some (.int .i64 0)) (by kernel_rfl) (unhide KS8 _ ((Below.refl _ _).drew)) (fun hHeld => ?_)
        refine wpAnyH_take (i := 0) (oi := { dst := some 51, op := Op.move (Operand.tmp 0), type := 24, pos := "optimistic.go:532", after := _, guard := none }) (v := ?_) rfl (by kernel_rfl) (by kernel_rfl) (by kernel_rfl) (fun _ _ _ h => h) (Or.inl ⟨by rfl, ?_⟩) (by assumption) ?_
        rotate_left 1
        · (intro w hSw; (try dsimp only at hSw); go_simp <;> with_reducible rfl)
        try simp only [Act.put, List.setIfInBounds_toArray, List.set_cons_zero, List.set_cons_succ]
        refine wpAnyH_take (i := 1) (oi := { dst := some 52, op := Op.nilCheck (Operand.tmp 51), type := 0, pos := "optimistic.go:532", after := _, guard := none }) (v := ?_) rfl (by kernel_rfl) (by kernel_rfl) (by kernel_rfl) (fun _ _ _ h => h) (Or.inl ⟨by rfl, ?_⟩) (by assumption) ?_
        rotate_left 1
        · (intro w hSw; (try dsimp only at hSw); go_simp <;> with_reducible rfl)
        try simp only [Act.put, List.setIfInBounds_toArray, List.set_cons_zero, List.set_cons_succ]
        refine wpAnyH_take (i := 2) (oi := { dst := some 53, op := Op.fieldAddr 57 (Operand.tmp 52) 2, type := 0, pos := "optimistic.go:532", after := _, guard := none }) (v := ?_) rfl (by kernel_rfl) (by kernel_rfl) (by kernel_rfl) (fun _ _ _ h => h) (Or.inl ⟨by rfl, ?_⟩) (by assumption) ?_
        rotate_left 1
        · (intro w hSw; (try dsimp only at hSw); go_simp <;> with_reducible rfl)
        try simp only [Act.put, List.setIfInBounds_toArray, List.set_cons_zero, List.set_cons_succ]
        refine wpAnyH_take (i := 3) (oi := { dst := some 54, op := Op.load 45 (Operand.tmp 53), type := 45, pos := "optimistic.go:532", after := _, guard := none }) (v := ?_) rfl (by kernel_rfl) (by kernel_rfl) (by kernel_rfl) (fun _ _ _ h => h) (Or.inl ⟨by rfl, ?_⟩) (by assumption) ?_
        rotate_left 1
        · (intro w hSw; (try dsimp only at hSw); go_simp <;> with_reducible rfl)
        try simp only [Act.put, List.setIfInBounds_toArray, List.set_cons_zero, List.set_cons_succ]
        refine wpAnyH_take (i := 4) (oi := { dst := some 55, op := Op.nilCheck (Operand.tmp 54), type := 0, pos := "optimistic.go:532", after := _, guard := none }) (v := ?_) rfl (by kernel_rfl) (by kernel_rfl) (by kernel_rfl) (fun _ _ _ h => h) (Or.inl ⟨by rfl, ?_⟩) (by assumption) ?_
        rotate_left 1
        · (intro w hSw; (try dsimp only at hSw); go_simp <;> with_reducible rfl)
        try simp only [Act.put, List.setIfInBounds_toArray, List.set_cons_zero, List.set_cons_succ]
        refine wpAnyH_take (i := 5) (oi := { dst := some 56, op := Op.fieldAddr 106 (Operand.tmp 55) 13, type := 0, pos := "optimistic.go:532", after := _, guard := none }) (v := ?_) rfl (by kernel_rfl) (by kernel_rfl) (by kernel_rfl) (fun _ _ _ h => h) (Or.inl ⟨by rfl, ?_⟩) (by assumption) ?_
        rotate_left 1
        · (intro w hSw; (try dsimp only at hSw); go_simp <;> with_reducible rfl)
        try simp only [Act.put, List.setIfInBounds_toArray, List.set_cons_zero, List.set_cons_succ]
        refine wpAnyH_take (i := 6) (oi := { dst := some 57, op := Op.load 67 (Operand.tmp 3), type := 67, pos := "optimistic.go:532", after := _, guard := none }) rfl (by kernel_rfl) (by kernel_rfl) (by kernel_rfl) (fun _ _ _ h => h) (yieldsIf_load_mid (by rfl) _ _ rfl w1.heap.size 0 rfl (keyL v) _ (fun w h => h.2.1) Yba.underlying67 rfl info67) (by assumption) ?_
        try simp only [Act.put, List.setIfInBounds_toArray, List.set_cons_zero, List.set_cons_succ]
        refine wpAnyH_ready (rs := [7]) (by kernel_rfl) (by simp) ?_
        refine AllReadyH.cons (o := { dst := some 58, op := Op.call { callee := Callee.value (Operand.func 25), args := #[Operand.tmp 56, Operand.tmp 57], argTypes := #[94, 67] }, type := 4, pos := "optimistic.go:532", after := _, guard := none }) rfl (fun K hK => ?_) AllReadyH.nil
        go_simp
        refine (bar_any rb 278 (.float .f64 v) (.int .u64 0) (.int .u64 0) (.int .u64 0) _ hHeld.2.2).mono ?_
        rintro e w5 ⟨rfl, hB5⟩
        have hB6 := below_more ((Below.refl (w2.drewN nq).heap.size (w2.drewN nq)).drew) hB5
        try (go_wp2_with fail)
        refine hK.out _ _ (unhide KS8 _ hB6) (fun hHeld => ?_)
        clear hK K
        try simp only [Act.put, List.setIfInBounds_toArray, List.set_cons_zero, List.set_cons_succ]
        refine wpAnyH_take (i := 8) (oi := { dst := some 59, op := Op.unOp UnOp.not 4 (Operand.tmp 58), type := 4, pos := "optimistic.go:532", after := _, guard := none }) (v := ?_) rfl (by kernel_rfl) (by kernel_rfl) (by kernel_rfl) (fun _ _ _ h => h) (Or.inl ⟨by rfl, ?_⟩) (by assumption) ?_
        rotate_left 1
        · (intro w hSw; (try dsimp only at hSw); go_simp <;> with_reducible rfl)
        try simp only [Act.put, List.setIfInBounds_toArray, List.set_cons_zero, List.set_cons_succ]
        refine wpAnyH_take (i := 9) (oi := { dst := some 2, op := Op.assign (Operand.tmp 59), type := 4, pos := "optimistic.go:532", after := _, guard := none }) (v := ?_) rfl (by kernel_rfl) (by kernel_rfl) (by kernel_rfl) (fun _ _ _ h => h) (Or.inl ⟨by rfl, ?_⟩) (by assumption) ?_
        rotate_left 1
        · (intro w hSw; (try dsimp only at hSw); go_simp <;> with_reducible rfl)
        try simp only [Act.put, List.setIfInBounds_toArray, List.set_cons_zero, List.set_cons_succ]
        refine wpAnyH_done (by kernel_rfl) ?_ _
        go_wp2_with fail
        go_ret
        refine ⟨?_, below_more (below_more (unhide HBK) (unhide HB3)) (below_more (below_drewN (Below.refl _ _) nq) hB6)⟩
        simp [mayGo, unhide Hyx]
      · by_cases hgx : W < x - G
        · have dg : decide (W < x - G) = true := by simp [hgx]
          have Hgx := hide hgx
          clear hgx
          rw [dg] at hgt
          go_upto_region 6 with fail
          go_big_quiet (fail)
          go_wp2_with fail
          go_ret
          refine ⟨?_, below_more (below_more (unhide HBK) (unhide HB3)) (below_drewN (Below.refl _ _) nq)⟩
          simp [mayGo, unhide Hyx, unhide Hgx]
        · have dg : decide (W < x - G) = false := by simp; omega
          have Hgx := hide hgx
          clear hgx
          rw [dg] at hgt
          go_upto_region 6 with fail
          go_big_quiet (fail)
          go_upto_region 8 with fail
          have KS8 : Hid (∀ w', Below (w2.drewN nq).heap.size (w2.drewN nq) w' → (w'.cell? ⟨wb, 134, none⟩ = some (.pointer (some ⟨rb, 0, none⟩)) ∧ w'.rangeAt w1.heap.size 0 (keyL v) ∧ w'.cell? ⟨rb, 278, none⟩ = some (.int .i64 0))) := fun w' hb => ⟨cell_stays hb d134, (fun j u hj => cell_stays hb (unhide jR j u hj)), cell_stays hb d278⟩
          refine wp_region_held_drew (S := fun w' => w'.cell? ⟨wb, 134, none⟩ = some (.pointer (some ⟨rb, 0, none⟩)) ∧ w'.rangeAt w1.heap.size 0 (keyL v) ∧ w'.cell? ⟨rb, 278, none⟩ = some (.int .i64 0)) (by kernel_rfl) (unhide KS8 _ ((Below.refl _ _).drew)) (fun hHeld => ?_)
          refine wpAnyH_take (i := 0) (oi := { dst := some 51, op := Op.move (Operand.tmp 0), type := 24, pos := "optimistic.go:532", after := _, guard := none }) (v := ?_) rfl (by kernel_rfl) (by kernel_rfl) (by kernel_rfl) (fun _ _ _ h => h) (Or.inl ⟨by rfl, ?_⟩) (by assumption) ?_
          rotate_left 1
          · (intro w hSw; (try dsimp only at hSw); go_simp <;> with_reducible rfl)
          try simp only [Act.put, List.setIfInBounds_toArray, List.set_cons_zero, List.set_cons_succ]
          refine wpAnyH_take (i := 1) (oi := { dst := some 52, op := Op.nilCheck (Operand.tmp 51), type := 0, pos := "optimistic.go:532", after := _, guard := none }) (v := ?_) rfl (by kernel_rfl) (by kernel_rfl) (by kernel_rfl) (fun _ _ _ h => h) (Or.inl ⟨by rfl, ?_⟩) (by assumption) ?_
          rotate_left 1
          · (intro w hSw; (try dsimp only at hSw); go_simp <;> with_reducible rfl)
          try simp only [Act.put, List.setIfInBounds_toArray, List.set_cons_zero, List.set_cons_succ]
          refine wpAnyH_take (i := 2) (oi := { dst := some 53, op := Op.fieldAddr 57 (Operand.tmp 52) 2, type := 0, pos := "optimistic.go:532", after := _, guard := none }) (v := ?_) rfl (by kernel_rfl) (by kernel_rfl) (by kernel_rfl) (fun _ _ _ h => h) (Or.inl ⟨by rfl, ?_⟩) (by assumption) ?_
          rotate_left 1
          · (intro w hSw; (try dsimp only at hSw); go_simp <;> with_reducible rfl)
          try simp only [Act.put, List.setIfInBounds_toArray, List.set_cons_zero, List.set_cons_succ]
          refine wpAnyH_take (i := 3) (oi := { dst := some 54, op := Op.load 45 (Operand.tmp 53), type := 45, pos := "optimistic.go:532", after := _, guard := none }) (v := ?_) rfl (by kernel_rfl) (by kernel_rfl) (by kernel_rfl) (fun _ _ _ h => h) (Or.inl ⟨by rfl, ?_⟩) (by assumption) ?_
          rotate_left 1
          · (intro w hSw; (try dsimp only at hSw); go_simp <;> with_reducible rfl)
          try simp only [Act.put, List.setIfInBounds_toArray, List.set_cons_zero, List.set_cons_succ]
          refine wpAnyH_take (i := 4) (oi := { dst := some 55, op := Op.nilCheck (Operand.tmp 54), type := 0, pos := "optimistic.go:532", after := _, guard := none }) (v := ?_) rfl (by kernel_rfl) (by kernel_rfl) (by kernel_rfl) (fun _ _ _ h => h) (Or.inl ⟨by rfl, ?_⟩) (by assumption) ?_
          rotate_left 1
          · (intro w hSw; (try dsimp only at hSw); go_simp <;> with_reducible rfl)
          try simp only [Act.put, List.setIfInBounds_toArray, List.set_cons_zero, List.set_cons_succ]
          refine wpAnyH_take (i := 5) (oi := { dst := some 56, op := Op.fieldAddr 106 (Operand.tmp 55) 13, type := 0, pos := "optimistic.go:532", after := _, guard := none }) (v := ?_) rfl (by kernel_rfl) (by kernel_rfl) (by kernel_rfl) (fun _ _ _ h => h) (Or.inl ⟨by rfl, ?_⟩) (by assumption) ?_
          rotate_left 1
          · (intro w hSw; (try dsimp only at hSw); go_simp <;> with_reducible rfl)
          try simp only [Act.put, List.setIfInBounds_toArray, List.set_cons_zero, List.set_cons_succ]
          refine wpAnyH_take (i := 6) (oi := { dst := some 57, op := Op.load 67 (Operand.tmp 3), type := 67, pos := "optimistic.go:532", after := _, guard := none }) rfl (by kernel_rfl) (by kernel_rfl) (by kernel_rfl) (fun _ _ _ h => h) (yieldsIf_load_mid (by rfl) _ _ rfl w1.heap.size 0 rfl (keyL v) _ (fun w h => h.2.1) Yba.underlying67 rfl info67) (by assumption) ?_
          try simp only [Act.put, List.setIfInBounds_toArray, List.set_cons_zero, List.set_cons_succ]
          refine wpAnyH_ready (rs := [7]) (by kernel_rfl) (by simp) ?_
          refine AllReadyH.cons (o := { dst := some 58, op := Op.call { callee := Callee.value (Operand.func 25), args := #[Operand.tmp 56, Operand.tmp 57], argTypes := #[94, 67] }, type := 4, pos := "optimistic.go:532", after := _, guard := none }) rfl (fun K hK => ?_) AllReadyH.nil
          go_simp
          refine (bar_any rb 278 (.float .f64 v) (.int .u64 0) (.int .u64 0) (.int .u64 0) _ hHeld.2.2).mono ?_
          rintro e w5 ⟨rfl, hB5⟩
          have hB6 := below_more ((Below.refl (w2.drewN nq).heap.size (w2.drewN nq)).drew) hB5
          try (go_wp2_with fail)
          refine hK.out _ _ (unhide KS8 _ hB6) (fun hHeld => ?_)
          clear hK K
          try simp only [Act.put, List.setIfInBounds_toArray, List.set_cons_zero, List.set_cons_succ]
          refine wpAnyH_take (i := 8) (oi := { dst := some 59, op := Op.unOp UnOp.not 4 (Operand.tmp 58), type := 4, pos := "optimistic.go:532", after := _, guard := none }) (v := ?_) rfl (by kernel_rfl) (by kernel_rfl) (by kernel_rfl) (fun _ _ _ h => h) (Or.inl ⟨by rfl, ?_⟩) (by assumption) ?_
          rotate_left 1
          · (intro w hSw; (try dsimp only at hSw); go_simp <;> with_reducible rfl)
          try simp only [Act.put, List.setIfInBounds_toArray, List.set_cons_zero, List.set_cons_succ]
          refine wpAnyH_take (i := 9) (oi := { dst := some 2, op := Op.assign (Operand.tmp 59), type := 4, pos := "optimistic.go:532", after := _, guard := none }) (v := ?_) rfl (by kernel_rfl) (by kernel_rfl) (by kernel_rfl) (fun _ _ _ h => h) (Or.inl ⟨by rfl, ?_⟩) (by assumption) ?_
          rotate_left 1
          · (intro w hSw; (try dsimp only at hSw); go_simp <;> with_reducible rfl)
          try simp only [Act.put, List.setIfInBounds_toArray, List.set_cons_zero, List.set_cons_succ]
          refine wpAnyH_done (by kernel_rfl) ?_ _
          go_wp2_with fail
          go_ret
          refine ⟨?_, below_more (below_more (unhide HBK) (unhide HB3)) (below_more (below_drewN (Below.refl _ _) nq) hB6)⟩
          simp [mayGo, unhide Hyx]
          have := unhide Hgx
          omega
end Go.Proofs.Ybulkbtik

import Derived.Test.YbulkbtikPush
namespace Go.Proofs.Ybulkbtik
open Go.Conc Go.RowKit Go.MuLone
set_option linter.unusedVariables false
set_option linter.unusedSimpArgs false

def sendL (v : Nat) : List Value := [.int .i64 0, .float .f64 v, .int .u64 0, .int .u64 0, .int .u64 0, .float .f64 0]

theorem inf69 : ∃ i, Yba.prog.info? 69 = some i ∧ i.zero = some (.agg #[.int .i64 0, .float .f64 0, .int .u64 0, .int .u64 0, .int .u64 0, .float .f64 0]) ∧ i.size = 6 ∧ i.bytes = 48 := by
  have h : (Yba.prog.info? 69).map (fun i => (i.zero, i.size, i.bytes)) = some (some (.agg #[.int .i64 0, .float .f64 0, .int .u64 0, .int .u64 0, .int .u64 0, .float .f64 0]), 6, 48) := by kernel_rfl
  obtain ⟨i, hi, hz⟩ := Option.map_eq_some_iff.1 h
  simp only [Prod.mk.injEq] at hz
  exact ⟨i, hi, hz.1, hz.2.1, hz.2.2⟩

theorem build127 (v : Nat) (s4 : Int) (w : World) : (Instr.build 127 #[(0, .agg (keyL v).toArray), (1, .int .i64 s4)]).run Yba.prog w = .ok (.agg (slL v (.int .i64 s4)).toArray) w := by
  have h : Yba.prog.built 127 [(0, .agg (keyL v).toArray), (1, .int .i64 s4)] = some (slL v (.int .i64 s4)).toArray := by kernel_rfl
  exact run_build w 127 _ _ h

theorem yields_build2 {P : Program} {ops : Array Oper} {S : World → Prop} {o : Oper} {a : Act} (hw : Region.wanted o (yielded ops a.tmps) = true) (t : TypeId) (i1 i2 : Nat) (x1 x2 : Operand)
    (hop : o.op = Op.build t #[(i1, x1), (i2, x2)]) (v1 v2 : Value) (h1 : a.eval x1 = v1) (h2 : a.eval x2 = v2)
    (cs : Array Value) (hrun : ∀ w, (Instr.build t #[(i1, v1), (i2, v2)]).run P w = .ok (.agg cs) w) : YieldsIf P ops S o (.agg cs) a :=
  .inl ⟨hw, fun w _ => by
    unfold execOp
    simp only [hop, List.map_toArray, List.map_cons, List.map_nil, h1, h2, Sem.run_bind, hrun, Result.andThen_ok]
    rfl⟩

set_option maxHeartbeats 4000000 in
theorem add_any {w : World} {wb v : Nat} {f : Nat → Value} (hf : w.rowIs wb 57 279 f) (f135 : f 135 = .slice none 0 0) (f136 : f 136 = .slice none 0 0) (f137 : f 137 = .slice none 0 0) :
    Calls Yba.prog 9 #[.pointer (some ⟨wb, 135, none⟩), .agg (keyL v).toArray, .agg (sendL v).toArray] w fun e w' => e = .returned (.tuple #[]) ∧ ∃ g cap s6, w.heap.size ≤ g ∧ g < w'.heap.size ∧ w.grownBy w' (some wb) ∧
      w'.rowIs wb 57 279 (putF (putF f 136 s6) 135 (.slice (some ⟨g, 0, none⟩) 1 cap)) ∧ w'.rangeAt g 0 (slL v (.int .i64 0)) := by
  have hwb := hf.lt
  obtain ⟨i5, hi5, hz5, hsz5, hby5⟩ := inf69
  have Hf135 := hide f135
  have Hf136 := hide f136
  clear f135 f136
  have c136 : w.cell? ⟨wb, 136, none⟩ = some (.slice none 0 0) := (hf.cell (by omega)).trans (by rw [unhide Hf136])
  have c137 : w.cell? ⟨wb, 137, none⟩ = some (.slice none 0 0) := (hf.cell (by omega)).trans (by rw [f137])
  go_enter Yba.func9, Yba.ntmps9
  go_upto_region 6 with fail
  have hB1 : Below w.heap.size w ((w.alloc (.cells (keyL v).toArray 67)).alloc (.cells (sendL v).toArray 69)) := ((Below.refl _ _).alloc (Nat.le_refl _) _).alloc (by simp) _
  have hs1 : ((w.alloc (.cells (keyL v).toArray 67)).alloc (.cells (sendL v).toArray 69)).heap.size = w.heap.size + 2 := by simp
  have hR0 : Hid (((w.alloc (.cells (keyL v).toArray 67)).alloc (.cells (sendL v).toArray 69)).rangeAt w.heap.size 0 (keyL v)) := range_far (rangeAt_new w _ 67 _ rfl) (Below.heap_alloc _ _ _ (by simp))
  have hR1 : Hid (((w.alloc (.cells (keyL v).toArray 67)).alloc (.cells (sendL v).toArray 69)).rangeAt (w.heap.size + 1) 0 (sendL v)) := rangeAt_new (w.alloc (.cells (keyL v).toArray 67)) _ 69 _ (by simp)
  have hf1 := (hf.alloc (.cells (keyL v).toArray 67)).alloc (.cells (sendL v).toArray 69)
  generalize (w.alloc (.cells (keyL v).toArray 67)).alloc (.cells (sendL v).toArray 69) = w1 at hB1 hs1 hR0 hR1 hf1 ⊢
  clear c136 c137
  have c136 : w1.cell? ⟨wb, 136, none⟩ = some (.slice none 0 0) := (hf1.cell (by omega)).trans (by rw [unhide Hf136])
  have hwb1 := hf1.lt
  have Hs1 := hide hs1
  have HB1 := hide hB1
  have HF1 := hide hf1
  clear hs1 hB1 hf1 hf
  have KS : Hid (∀ w', Below w1.heap.size w1 w' → w'.rangeAt (w.heap.size + 1) 0 (sendL v)) := fun w' hb => rangeAt_below (unhide hR1) hb
  go_cut [] (fun wx => ∃ (s6 : Value) (w3 : World), Below w1.heap.size w1 w3 ∧ wx = w3.setCell ⟨wb, 136, none⟩ s6)
  case first =>
    refine wp_region_held_drew (S := fun w' => w'.rangeAt (w.heap.size + 1) 0 (sendL v)) (by kernel_rfl) (unhide KS _ ((Below.refl _ _).drew)) (fun hHeld => ?_)
    refine wpAnyH_take (i := 0) (oi := { dst := some 45, op := Op.move (Operand.tmp 0), type := 124, pos := "run.go:343", after := _, guard := none }) (v := ?_) rfl (by kernel_rfl) (by kernel_rfl) (by kernel_rfl) (fun _ _ _ h => h) (Or.inl ⟨by rfl, ?_⟩) (by assumption) ?_
    rotate_left 1
    · (intro w hSw; (try dsimp only at hSw); go_simp <;> with_reducible rfl)
    try simp only [Act.put, List.setIfInBounds_toArray, List.set_cons_zero, List.set_cons_succ]
    refine wpAnyH_take (i := 1) (oi := { dst := some 46, op := Op.move (Operand.tmp 0), type := 124, pos := "run.go:343", after := _, guard := none }) (v := ?_) rfl (by kernel_rfl) (by kernel_rfl) (by kernel_rfl) (fun _ _ _ h => h) (Or.inl ⟨by rfl, ?_⟩) (by assumption) ?_
    rotate_left 1
    · (intro w hSw; (try dsimp only at hSw); go_simp <;> with_reducible rfl)
    try simp only [Act.put, List.setIfInBounds_toArray, List.set_cons_zero, List.set_cons_succ]
    refine wpAnyH_take (i := 2) (oi := { dst := some 47, op := Op.nilCheck (Operand.tmp 46), type := 0, pos := "run.go:343", after := _, guard := none }) (v := ?_) rfl (by kernel_rfl) (by kernel_rfl) (by kernel_rfl) (fun _ _ _ h => h) (Or.inl ⟨by rfl, ?_⟩) (by assumption) ?_
    rotate_left 1
    · (intro w hSw; (try dsimp only at hSw); go_simp <;> with_reducible rfl)
    try simp only [Act.put, List.setIfInBounds_toArray, List.set_cons_zero, List.set_cons_succ]
    refine wpAnyH_take (i := 3) (oi := { dst := some 48, op := Op.fieldAddr 50 (Operand.tmp 47) 1, type := 0, pos := "run.go:343", after := _, guard := none }) (v := ?_) rfl (by kernel_rfl) (by kernel_rfl) (by kernel_rfl) (fun _ _ _ h => h) (Or.inl ⟨by rfl, ?_⟩) (by assumption) ?_
    rotate_left 1
    · (intro w hSw; (try dsimp only at hSw); go_simp <;> with_reducible rfl)
    try simp only [Act.put, List.setIfInBounds_toArray, List.set_cons_zero, List.set_cons_succ]
    refine wpAnyH_take (i := 5) (oi := { dst := some 50, op := Op.load 69 (Operand.tmp 5), type := 69, pos := "run.go:343", after := _, guard := none }) rfl (by kernel_rfl) (by kernel_rfl) (by kernel_rfl) (fun _ _ _ h => h) (yieldsIf_load_mid (by rfl) _ _ rfl (w.heap.size + 1) 0 rfl [.int .i64 0, .float .f64 v, .int .u64 0, .int .u64 0, .int .u64 0, .float .f64 0] _ (fun w h => h) Yba.underlying69 rfl info69) (by assumption) ?_
    try simp only [Act.put, List.setIfInBounds_toArray, List.set_cons_zero, List.set_cons_succ]
    refine wpAnyH_ready (rs := [4, 6]) (by kernel_rfl) (by simp) ?_
    refine AllReadyH.cons (o := { dst := some 49, op := Op.load 48 (Operand.tmp 48), type := 48, pos := "run.go:343", after := _, guard := none }) rfl (fun K hK => ?_) (AllReadyH.cons (o := { dst := some 51, op := Op.buildSlice 48 1 #[(0, Operand.tmp 50)], type := 48, pos := "run.go:343", after := _, guard := none }) rfl (fun K hK => ?_) AllReadyH.nil)
    · go_simp
      refine hK.out _ _ (unhide KS _ ((Below.refl _ _).drew)) (fun hHeld => ?_)
      clear hK K
      try simp only [Act.put, List.setIfInBounds_toArray, List.set_cons_zero, List.set_cons_succ]
      refine wpAnyH_ready (rs := [6]) (by kernel_rfl) (by simp) ?_
      refine AllReadyH.cons (o := { dst := some 51, op := Op.buildSlice 48 1 #[(0, Operand.tmp 50)], type := 48, pos := "run.go:343", after := _, guard := none }) rfl (fun K hK => ?_) AllReadyH.nil
      go_simp
      refine hK.out _ _ (unhide KS _ (((Below.refl _ _).drew).alloc (Nat.le_refl _) _)) (fun hHeld => ?_)
      clear hK K
      try simp only [Act.put, List.setIfInBounds_toArray, List.set_cons_zero, List.set_cons_succ]
      refine wpAnyH_ready (rs := [7]) (by kernel_rfl) (by simp) ?_
      refine AllReadyH.cons (o := { dst := some 52, op := Op.call { callee := Callee.builtin Builtin.append, args := #[Operand.tmp 49, Operand.tmp 51], argTypes := #[48, 48] }, type := 48, pos := "run.go:343", after := _, guard := none }) rfl (fun K hK => ?_) AllReadyH.nil
      rw [if_pos (by rfl)]
      refine wp_append_lies _ _ _ _ rfl w.heap.size 69 i5 _ 6 48 Yba.underlying48 hi5 hz5 hsz5 hby5 rfl (by omega) (.slice none 0 0) 0 [] rfl ⟨rfl, .inl ⟨rfl, rfl⟩⟩ ⟨w1.heap.size, 0, none⟩ 1 1 (sendL v) rfl rfl ?_ ?_ (by omega) (by decide) (by decide) (by have := unhide Hs1; simp; omega) (w1.heap.size + 1) (by simp) ?_
      · intro j u hj
        have := rangeAt_new w1.drew #[.int .i64 0, .float .f64 v, .int .u64 0, .int .u64 0, .int .u64 0, .float .f64 0] 69 _ rfl j u hj
        rw [Nat.zero_add] at this
        rw [Addr.add_mid, Nat.zero_add]
        exact this
      · intro u hu
        simp [sendL] at hu
        rcases hu with rfl | rfl | rfl | rfl | rfl | rfl <;> rfl
      intro g cap w3 hown3 hgrow3 hat3 hlt3
      try simp only [Act.put, List.setIfInBounds_toArray, List.set_cons_zero, List.set_cons_succ]
      refine hK.out _ _ (unhide KS _ ((((Below.refl w1.heap.size w1).drew).alloc (Nat.le_refl _) _).grown hgrow3 (by simp) (fun k h => by cases h))) (fun hHeld => ?_)
      clear hK K
      try simp only [Act.put, List.setIfInBounds_toArray, List.set_cons_zero, List.set_cons_succ]
      have hB3 : Below w1.heap.size w1 w3 := ((((Below.refl w1.heap.size w1).drew).alloc (Nat.le_refl _) _).grown hgrow3 (by simp) (fun k h => by cases h))
      have hf3 := (unhide HF1).of_block (hB3.block wb (by omega))
      have d136 : w3.cell? ⟨wb, 136, none⟩ = some (.slice none 0 0) := (hf3.cell (by omega)).trans (by rw [unhide Hf136])
      have z136 := hf3.frozen 136
      refine wpAnyH_take (i := 8) (oi := { dst := some 53, op := Op.nilCheck (Operand.tmp 45), type := 0, pos := "run.go:343", after := _, guard := none }) (v := ?_) rfl (by kernel_rfl) (by kernel_rfl) (by kernel_rfl) (fun _ _ _ h => h) (Or.inl ⟨by rfl, ?_⟩) (by assumption) ?_
      rotate_left 1
      · (intro w hSw; (try dsimp only at hSw); go_simp <;> with_reducible rfl)
      try simp only [Act.put, List.setIfInBounds_toArray, List.set_cons_zero, List.set_cons_succ]
      refine wpAnyH_take (i := 9) (oi := { dst := some 54, op := Op.fieldAddr 50 (Operand.tmp 53) 1, type := 0, pos := "run.go:343", after := _, guard := none }) (v := ?_) rfl (by kernel_rfl) (by kernel_rfl) (by kernel_rfl) (fun _ _ _ h => h) (Or.inl ⟨by rfl, ?_⟩) (by assumption) ?_
      rotate_left 1
      · (intro w hSw; (try dsimp only at hSw); go_simp <;> with_reducible rfl)
      try simp only [Act.put, List.setIfInBounds_toArray, List.set_cons_zero, List.set_cons_succ]
      refine wpAnyH_ready (rs := [10]) (by kernel_rfl) (by simp) ?_
      refine AllReadyH.cons (o := { dst := none, op := Op.store 48 (Operand.tmp 54) (Operand.tmp 52), type := 0, pos := "run.go:343", after := _, guard := none }) rfl (fun K hK => ?_) AllReadyH.nil
      go_simp
      refine hK.out _ _ (range_far (unhide KS _ hB3) (Below.heap_setCell _ _ _ _ (by show w.heap.size + 1 ≠ wb; omega))) (fun hHeld => ?_)
      clear hK K
      try simp only [Act.put, List.setIfInBounds_toArray, List.set_cons_zero, List.set_cons_succ]
      refine wpAnyH_done (by kernel_rfl) ?_ _
      go_wp2_with fail
      go_meet
      exact ⟨_, w3, hB3, rfl⟩
    · go_simp
      refine hK.out _ _ (unhide KS _ (((Below.refl _ _).drew).alloc (Nat.le_refl _) _)) (fun hHeld => ?_)
      clear hK K
      try simp only [Act.put, List.setIfInBounds_toArray, List.set_cons_zero, List.set_cons_succ]
      refine wpAnyH_ready (rs := [4]) (by kernel_rfl) (by simp) ?_
      refine AllReadyH.cons (o := { dst := some 49, op := Op.load 48 (Operand.tmp 48), type := 48, pos := "run.go:343", after := _, guard := none }) rfl (fun K hK => ?_) AllReadyH.nil
      go_simp
      refine hK.out _ _ (unhide KS _ (((Below.refl _ _).drew).alloc (Nat.le_refl _) _)) (fun hHeld => ?_)
      clear hK K
      try simp only [Act.put, List.setIfInBounds_toArray, List.set_cons_zero, List.set_cons_succ]
      refine wpAnyH_ready (rs := [7]) (by kernel_rfl) (by simp) ?_
      refine AllReadyH.cons (o := { dst := some 52, op := Op.call { callee := Callee.builtin Builtin.append, args := #[Operand.tmp 49, Operand.tmp 51], argTypes := #[48, 48] }, type := 48, pos := "run.go:343", after := _, guard := none }) rfl (fun K hK => ?_) AllReadyH.nil
      rw [if_pos (by rfl)]
      refine wp_append_lies _ _ _ _ rfl w.heap.size 69 i5 _ 6 48 Yba.underlying48 hi5 hz5 hsz5 hby5 rfl (by omega) (.slice none 0 0) 0 [] rfl ⟨rfl, .inl ⟨rfl, rfl⟩⟩ ⟨w1.heap.size, 0, none⟩ 1 1 (sendL v) rfl rfl ?_ ?_ (by omega) (by decide) (by decide) (by have := unhide Hs1; simp; omega) (w1.heap.size + 1) (by simp) ?_
      · intro j u hj
        have := rangeAt_new w1.drew #[.int .i64 0, .float .f64 v, .int .u64 0, .int .u64 0, .int .u64 0, .float .f64 0] 69 _ rfl j u hj
        rw [Nat.zero_add] at this
        rw [Addr.add_mid, Nat.zero_add]
        exact this
      · intro u hu
        simp [sendL] at hu
        rcases hu with rfl | rfl | rfl | rfl | rfl | rfl <;> rfl
      intro g cap w3 hown3 hgrow3 hat3 hlt3
      try simp only [Act.put, List.setIfInBounds_toArray, List.set_cons_zero, List.set_cons_succ]
      refine hK.out _ _ (unhide KS _ ((((Below.refl w1.heap.size w1).drew).alloc (Nat.le_refl _) _).grown hgrow3 (by simp) (fun k h => by cases h))) (fun hHeld => ?_)
      clear hK K
      try simp only [Act.put, List.setIfInBounds_toArray, List.set_cons_zero, List.set_cons_succ]
      have hB3 : Below w1.heap.size w1 w3 := ((((Below.refl w1.heap.size w1).drew).alloc (Nat.le_refl _) _).grown hgrow3 (by simp) (fun k h => by cases h))
      have hf3 := (unhide HF1).of_block (hB3.block wb (by omega))
      have d136 : w3.cell? ⟨wb, 136, none⟩ = some (.slice none 0 0) := (hf3.cell (by omega)).trans (by rw [unhide Hf136])
      have z136 := hf3.frozen 136
      refine wpAnyH_take (i := 8) (oi := { dst := some 53, op := Op.nilCheck (Operand.tmp 45), type := 0, pos := "run.go:343", after := _, guard := none }) (v := ?_) rfl (by kernel_rfl) (by kernel_rfl) (by kernel_rfl) (fun _ _ _ h => h) (Or.inl ⟨by rfl, ?_⟩) (by assumption) ?_
      rotate_left 1
      · (intro w hSw; (try dsimp only at hSw); go_simp <;> with_reducible rfl)
      try simp only [Act.put, List.setIfInBounds_toArray, List.set_cons_zero, List.set_cons_succ]
      refine wpAnyH_take (i := 9) (oi := { dst := some 54, op := Op.fieldAddr 50 (Operand.tmp 53) 1, type := 0, pos := "run.go:343", after := _, guard := none }) (v := ?_) rfl (by kernel_rfl) (by kernel_rfl) (by kernel_rfl) (fun _ _ _ h => h) (Or.inl ⟨by rfl, ?_⟩) (by assumption) ?_
      rotate_left 1
      · (intro w hSw; (try dsimp only at hSw); go_simp <;> with_reducible rfl)
      try simp only [Act.put, List.setIfInBounds_toArray, List.set_cons_zero, List.set_cons_succ]
      refine wpAnyH_ready (rs := [10]) (by kernel_rfl) (by simp) ?_
      refine AllReadyH.cons (o := { dst := none, op := Op.store 48 (Operand.tmp 54) (Operand.tmp 52), type := 0, pos := "run.go:343", after := _, guard := none }) rfl (fun K hK => ?_) AllReadyH.nil
      go_simp
      refine hK.out _ _ (range_far (unhide KS _ hB3) (Below.heap_setCell _ _ _ _ (by show w.heap.size + 1 ≠ wb; omega))) (fun hHeld => ?_)
      clear hK K
      try simp only [Act.put, List.setIfInBounds_toArray, List.set_cons_zero, List.set_cons_succ]
      refine wpAnyH_done (by kernel_rfl) ?_ _
      go_wp2_with fail
      go_meet
      exact ⟨_, w3, hB3, rfl⟩
  case rest =>
  obtain ⟨s6, w3, hB3, rfl⟩ := hcut
  have hf3 := (unhide HF1).of_block (hB3.block wb (by omega))
  have hf4 := hf3.set 136 s6
  have hr4 : Hid ((w3.setCell ⟨wb, 136, none⟩ s6).rangeAt w.heap.size 0 (keyL v)) := range_far (rangeAt_below (unhide hR0) hB3) (Below.heap_setCell w3 ⟨wb, 136, none⟩ s6 w.heap.size (by show w.heap.size ≠ wb; omega))
  have HG : Hid (w.grownBy (w3.setCell ⟨wb, 136, none⟩ s6) (some wb)) := grown_trans (grown_below (below_more (unhide HB1) hB3) _) (grown_setCells [s6] 136 w3)
  generalize w3.setCell ⟨wb, 136, none⟩ s6 = w4 at hf4 hr4 HG ⊢
  have hf4' : w4.rowIs wb 57 279 (putF f 136 s6) := hf4
  have hwb4 := hf4.lt
  have hbl : w.heap.size < w4.heap.size := World.block_lt_of_cell? _ _ (unhide hr4 0 _ rfl)
  have p135 : putF f 136 s6 135 = .slice none 0 0 := by simp [putF, unhide Hf135]
  clear hf3 hf4 hB3 KS c136
  go_upto_region 7 with fail
  refine wp_region_held_drew (S := fun w' => w'.rangeAt w.heap.size 0 (keyL v)) (by kernel_rfl) (unhide hr4) (fun hHeld => ?_)
  refine wpAnyH_take (i := 0) (oi := { dst := some 55, op := Op.move (Operand.tmp 0), type := 124, pos := "run.go:345", after := _, guard := none }) (v := ?_) rfl (by kernel_rfl) (by kernel_rfl) (by kernel_rfl) (fun _ _ _ h => h) (Or.inl ⟨by rfl, ?_⟩) (by assumption) ?_
  rotate_left 1
  · (intro w hSw; (try dsimp only at hSw); go_simp <;> with_reducible rfl)
  try simp only [Act.put, List.setIfInBounds_toArray, List.set_cons_zero, List.set_cons_succ]
  refine wpAnyH_take (i := 1) (oi := { dst := some 56, op := Op.nilCheck (Operand.tmp 55), type := 0, pos := "run.go:345", after := _, guard := none }) (v := ?_) rfl (by kernel_rfl) (by kernel_rfl) (by kernel_rfl) (fun _ _ _ h => h) (Or.inl ⟨by rfl, ?_⟩) (by assumption) ?_
  rotate_left 1
  · (intro w hSw; (try dsimp only at hSw); go_simp <;> with_reducible rfl)
  try simp only [Act.put, List.setIfInBounds_toArray, List.set_cons_zero, List.set_cons_succ]
  refine wpAnyH_take (i := 2) (oi := { dst := some 57, op := Op.fieldAddr 50 (Operand.tmp 56) 0, type := 0, pos := "run.go:345", after := _, guard := none }) (v := ?_) rfl (by kernel_rfl) (by kernel_rfl) (by kernel_rfl) (fun _ _ _ h => h) (Or.inl ⟨by rfl, ?_⟩) (by assumption) ?_
  rotate_left 1
  · (intro w hSw; (try dsimp only at hSw); go_simp <;> with_reducible rfl)
  try simp only [Act.put, List.setIfInBounds_toArray, List.set_cons_zero, List.set_cons_succ]
  refine wpAnyH_take (i := 3) (oi := { dst := some 58, op := Op.load 67 (Operand.tmp 4), type := 67, pos := "run.go:345", after := _, guard := none }) rfl (by kernel_rfl) (by kernel_rfl) (by kernel_rfl) (fun _ _ _ h => h) (yieldsIf_load_mid (by rfl) _ _ rfl w.heap.size 0 rfl (keyL v) _ (fun w h => h) Yba.underlying67 rfl info67) (by assumption) ?_
  try simp only [Act.put, List.setIfInBounds_toArray, List.set_cons_zero, List.set_cons_succ]
  refine wpAnyH_take (i := 4) (oi := { dst := some 59, op := Op.move (Operand.tmp 6), type := 3, pos := "run.go:345", after := _, guard := none }) (v := ?_) rfl (by kernel_rfl) (by kernel_rfl) (by kernel_rfl) (fun _ _ _ h => h) (Or.inl ⟨by rfl, ?_⟩) (by assumption) ?_
  rotate_left 1
  · (intro w hSw; (try dsimp only at hSw); go_simp <;> with_reducible rfl)
  try simp only [Act.put, List.setIfInBounds_toArray, List.set_cons_zero, List.set_cons_succ]
  refine wpAnyH_take (i := 5) (oi := { dst := some 60, op := Op.build 127 #[(0, Operand.tmp 58), (1, Operand.tmp 59)], type := 127, pos := "run.go:345", after := _, guard := none }) rfl (by kernel_rfl) (by kernel_rfl) (by kernel_rfl) (fun _ _ _ h => h) (yields_build2 (by rfl) 127 0 1 _ _ rfl (.agg (keyL v).toArray) (.int .i64 0) rfl rfl (slL v (.int .i64 0)).toArray (build127 v 0)) (by assumption) ?_
  try simp only [Act.put, List.setIfInBounds_toArray, List.set_cons_zero, List.set_cons_succ]
  refine wpAnyH_ready (rs := [6]) (by kernel_rfl) (by simp) ?_
  refine AllReadyH.cons (o := { dst := some 61, op := Op.call { callee := Callee.value (Operand.func 17), args := #[Operand.tmp 57, Operand.tmp 60], argTypes := #[47, 127] }, type := 0, pos := "run.go:345", after := _, guard := none }) rfl (fun K hK => ?_) AllReadyH.nil
  go_simp
  refine (push_any (w := w4.drew) (v := v) (s4 := 0) hf4' p135).mono ?_
  rintro e w5 ⟨rfl, g, cap, hg0, hg1, hgr, hrow, hrg⟩
  try (go_wp2_with fail)
  refine hK.out _ _ (range_far (unhide hr4) (hgr.block w.heap.size (by show w.heap.size < w4.heap.size; omega) (by simp; omega))) (fun hHeld => ?_)
  clear hK K
  try simp only [Act.put, List.setIfInBounds_toArray, List.set_cons_zero, List.set_cons_succ]
  refine wpAnyH_done (by kernel_rfl) ?_ _
  go_wp2_with fail
  go_end0
  have hG := unhide HG
  have hg0' : w4.heap.size ≤ g := hg0
  refine ⟨rfl, g, cap, s6, by omega, hg1, ⟨hgr.os.trans hG.os, hgr.tape.trans hG.tape, hgr.output.trans hG.output, Nat.le_trans hG.size hgr.size, fun k hk hr => (hgr.block k (by show k < w4.heap.size; have := hG.size; omega) hr).trans (hG.block k hk hr)⟩, hrow, hrg⟩
end Go.Proofs.Ybulkbtik

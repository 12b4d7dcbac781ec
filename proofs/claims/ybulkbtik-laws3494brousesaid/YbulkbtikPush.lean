import Derived.Test.YbulkbtikUp
namespace Go.Proofs.Ybulkbtik
open Go.Conc Go.RowKit Go.MuLone
set_option linter.unusedVariables false
set_option linter.unusedSimpArgs false

def putF (f : Nat → Value) (i : Nat) (u : Value) : Nat → Value := fun j => if j = i then u else f j

theorem inf127 : ∃ i, Yba.prog.info? 127 = some i ∧ i.zero = some (.agg #[.float .f64 0, .int .u64 0, .int .u64 0, .int .u64 0, .int .i64 0]) ∧ i.size = 5 ∧ i.bytes = 40 := by
  have h : (Yba.prog.info? 127).map (fun i => (i.zero, i.size, i.bytes)) = some (some (.agg #[.float .f64 0, .int .u64 0, .int .u64 0, .int .u64 0, .int .i64 0]), 5, 40) := by kernel_rfl
  obtain ⟨i, hi, hz⟩ := Option.map_eq_some_iff.1 h
  simp only [Prod.mk.injEq] at hz
  exact ⟨i, hi, hz.1, hz.2.1, hz.2.2⟩

theorem own_range {w : World} {base g cap k : Nat} {e : TypeId} {xs : List Value} (h : w.ownsRow base e k (.slice (some ⟨g, 0, none⟩) 1 cap) 1 xs) : w.rangeAt g 0 xs ∧ w.there g 0 k ∧ 1 ≤ cap := by
  rcases h.2 with ⟨h0, _⟩ | ⟨g', cap', cur, hv, _, hg, hc, _, hs, ht⟩
  · cases h0
  · simp only [Value.slice.injEq, Option.some.injEq, Addr.mk.injEq] at hv
    obtain ⟨⟨rfl, _⟩, _, rfl⟩ := hv
    have hk : k ≤ cur.size := by rw [hs]; exact Nat.le_mul_of_pos_left _ (by omega)
    refine ⟨fun j u hj => ?_, fun j hj => ⟨?_, ?_⟩, hc⟩
    · have hj' : cur[j]? = some u := by
        rw [← ht, List.getElem?_take] at hj
        split at hj
        · simpa using hj
        · cases hj
      rw [Nat.zero_add]
      simp [World.cell?, hg, hj']
    · rw [Nat.zero_add]
      simp only [World.cell?, hg]
      simp [show j < cur.size by omega]
    · simp [World.frozen?, hg]

set_option maxHeartbeats 4000000 in
theorem push_any {w : World} {wb v : Nat} {s4 : Int} {f : Nat → Value} (hf : w.rowIs wb 57 279 f) (f135 : f 135 = .slice none 0 0) :
    Calls Yba.prog 17 #[.pointer (some ⟨wb, 135, none⟩), .agg (slL v (.int .i64 s4)).toArray] w fun e w' => e = .returned (.tuple #[]) ∧ ∃ g cap, w.heap.size ≤ g ∧ g < w'.heap.size ∧ w.grownBy w' (some wb) ∧
      w'.rowIs wb 57 279 (putF f 135 (.slice (some ⟨g, 0, none⟩) 1 cap)) ∧ w'.rangeAt g 0 (slL v (.int .i64 s4)) := by
  have hwb := hf.lt
  obtain ⟨i5, hi5, hz5, hsz5, hby5⟩ := inf127
  have Hf135 := hide f135
  clear f135
  go_enter Yba.func17, Yba.ntmps17
  go_upto_region 1 with fail
  have hB1 : Below w.heap.size w (w.alloc (.cells (slL v (.int .i64 s4)).toArray 127)) := (Below.refl _ _).alloc (Nat.le_refl _) _
  have hs1 : (w.alloc (.cells (slL v (.int .i64 s4)).toArray 127)).heap.size = w.heap.size + 1 := by simp
  have hR1 : Hid ((w.alloc (.cells (slL v (.int .i64 s4)).toArray 127)).rangeAt w.heap.size 0 (slL v (.int .i64 s4))) := rangeAt_new w _ 127 _ rfl
  have hf1 := hf.alloc (.cells (slL v (.int .i64 s4)).toArray 127)
  generalize w.alloc (.cells (slL v (.int .i64 s4)).toArray 127) = w1 at hB1 hs1 hR1 hf1 ⊢
  have c135 : w1.cell? ⟨wb, 135, none⟩ = some (.slice none 0 0) := (hf1.cell (by omega)).trans (by rw [unhide Hf135])
  have hwb1 := hf1.lt
  have Hs1 := hide hs1
  clear hs1
  have HB1 := hide hB1
  have HF1 := hide hf1
  clear hB1 hf1 hf
  have KS : Hid (∀ w', Below w1.heap.size w1 w' → w'.rangeAt w.heap.size 0 (slL v (.int .i64 s4))) := fun w' hb => rangeAt_below (unhide hR1) hb
  go_cut [] (fun wx => ∃ (cap : Nat) (w3 : World), Below w1.heap.size w1 w3 ∧ w3.ownsRow w.heap.size 127 5 (.slice (some ⟨w1.heap.size + 1, 0, none⟩) 1 cap) 1 (slL v (.int .i64 s4)) ∧ wx = w3.setCell ⟨wb, 135, none⟩ (.slice (some ⟨w1.heap.size + 1, 0, none⟩) 1 cap))
  case first =>
    refine wp_region_held_drew (S := fun w' => w'.rangeAt w.heap.size 0 (slL v (.int .i64 s4))) (by kernel_rfl) (unhide KS _ ((Below.refl _ _).drew)) (fun hHeld => ?_)
    refine wpAnyH_take (i := 0) (oi := { dst := some 4, op := Op.move (Operand.tmp 0), type := 133, pos := "run.go:370", after := _, guard := none }) (v := ?_) rfl (by kernel_rfl) (by kernel_rfl) (by kernel_rfl) (fun _ _ _ h => h) (Or.inl ⟨by rfl, ?_⟩) (by assumption) ?_
    rotate_left 1
    · (intro w hSw; (try dsimp only at hSw); go_simp <;> with_reducible rfl)
    try simp only [Act.put, List.setIfInBounds_toArray, List.set_cons_zero, List.set_cons_succ]
    refine wpAnyH_take (i := 1) (oi := { dst := some 5, op := Op.move (Operand.tmp 0), type := 133, pos := "run.go:370", after := _, guard := none }) (v := ?_) rfl (by kernel_rfl) (by kernel_rfl) (by kernel_rfl) (fun _ _ _ h => h) (Or.inl ⟨by rfl, ?_⟩) (by assumption) ?_
    rotate_left 1
    · (intro w hSw; (try dsimp only at hSw); go_simp <;> with_reducible rfl)
    try simp only [Act.put, List.setIfInBounds_toArray, List.set_cons_zero, List.set_cons_succ]
    refine wpAnyH_take (i := 2) (oi := { dst := some 6, op := Op.nilCheck (Operand.tmp 5), type := 0, pos := "run.go:370", after := _, guard := none }) (v := ?_) rfl (by kernel_rfl) (by kernel_rfl) (by kernel_rfl) (fun _ _ _ h => h) (Or.inl ⟨by rfl, ?_⟩) (by assumption) ?_
    rotate_left 1
    · (intro w hSw; (try dsimp only at hSw); go_simp <;> with_reducible rfl)
    try simp only [Act.put, List.setIfInBounds_toArray, List.set_cons_zero, List.set_cons_succ]
    refine wpAnyH_take (i := 4) (oi := { dst := some 8, op := Op.load 127 (Operand.tmp 3), type := 127, pos := "run.go:370", after := _, guard := none }) rfl (by kernel_rfl) (by kernel_rfl) (by kernel_rfl) (fun _ _ _ h => h) (yieldsIf_load_mid (by rfl) _ _ rfl w.heap.size 0 rfl [.float .f64 v, .int .u64 0, .int .u64 0, .int .u64 0, .int .i64 s4] _ (fun w h => h) Yba.underlying127 rfl info127) (by assumption) ?_
    try simp only [Act.put, List.setIfInBounds_toArray, List.set_cons_zero, List.set_cons_succ]
    refine wpAnyH_ready (rs := [3, 5]) (by kernel_rfl) (by simp) ?_
    refine AllReadyH.cons (o := { dst := some 7, op := Op.load 47 (Operand.tmp 6), type := 47, pos := "run.go:370", after := _, guard := none }) rfl (fun K hK => ?_) (AllReadyH.cons (o := { dst := some 9, op := Op.buildSlice 47 1 #[(0, Operand.tmp 8)], type := 47, pos := "run.go:370", after := _, guard := none }) rfl (fun K hK => ?_) AllReadyH.nil)
    · go_simp
      refine hK.out _ _ (unhide KS _ ((Below.refl _ _).drew)) (fun hHeld => ?_)
      clear hK K
      try simp only [Act.put, List.setIfInBounds_toArray, List.set_cons_zero, List.set_cons_succ]
      refine wpAnyH_ready (rs := [5]) (by kernel_rfl) (by simp) ?_
      refine AllReadyH.cons (o := { dst := some 9, op := Op.buildSlice 47 1 #[(0, Operand.tmp 8)], type := 47, pos := "run.go:370", after := _, guard := none }) rfl (fun K hK => ?_) AllReadyH.nil
      go_simp
      refine hK.out _ _ (unhide KS _ (((Below.refl _ _).drew).alloc (Nat.le_refl _) _)) (fun hHeld => ?_)
      clear hK K
      try simp only [Act.put, List.setIfInBounds_toArray, List.set_cons_zero, List.set_cons_succ]
      refine wpAnyH_ready (rs := [6]) (by kernel_rfl) (by simp) ?_
      refine AllReadyH.cons (o := { dst := some 10, op := Op.call { callee := Callee.builtin Builtin.append, args := #[Operand.tmp 7, Operand.tmp 9], argTypes := #[47, 47] }, type := 47, pos := "run.go:370", after := _, guard := none }) rfl (fun K hK => ?_) AllReadyH.nil
      rw [if_pos (by rfl)]
      refine wp_append_lies _ _ _ _ rfl w.heap.size 127 i5 _ 5 40 Yba.underlying47 hi5 hz5 hsz5 hby5 rfl (by omega) (.slice none 0 0) 0 [] rfl ⟨rfl, .inl ⟨rfl, rfl⟩⟩ ⟨w1.heap.size, 0, none⟩ 1 1 (slL v (.int .i64 s4)) rfl rfl ?_ ?_ (by omega) (by decide) (by decide) (by have := unhide Hs1; simp; omega) (w1.heap.size + 1) (by simp) ?_
      · intro j u hj
        have := rangeAt_new w1.drew #[.float .f64 v, .int .u64 0, .int .u64 0, .int .u64 0, .int .i64 s4] 127 _ rfl j u hj
        rw [Nat.zero_add] at this
        rw [Addr.add_mid, Nat.zero_add]
        exact this
      · intro u hu
        simp [slL] at hu
        rcases hu with rfl | rfl | rfl | rfl | rfl <;> rfl
      intro g cap w3 hown3 hgrow3 hat3 hlt3
      try simp only [Act.put, List.setIfInBounds_toArray, List.set_cons_zero, List.set_cons_succ]
      refine hK.out _ _ (unhide KS _ ((((Below.refl w1.heap.size w1).drew).alloc (Nat.le_refl _) _).grown hgrow3 (by simp) (fun k h => by cases h))) (fun hHeld => ?_)
      clear hK K
      try simp only [Act.put, List.setIfInBounds_toArray, List.set_cons_zero, List.set_cons_succ]
      have hg3 : g = w1.heap.size + 1 := hat3.elim (fun h => by cases h) id
      subst hg3
      have hB3 : Below w1.heap.size w1 w3 := (((Below.refl w1.heap.size w1).drew).alloc (Nat.le_refl _) _).grown hgrow3 (by simp) (fun k h => by cases h)
      have hf3 := (unhide HF1).of_block (hB3.block wb (by omega))
      have d135 : w3.cell? ⟨wb, 135, none⟩ = some (.slice none 0 0) := (hf3.cell (by omega)).trans (by rw [unhide Hf135])
      have z135 := hf3.frozen 135
      refine wpAnyH_take (i := 7) (oi := { dst := some 11, op := Op.nilCheck (Operand.tmp 4), type := 0, pos := "run.go:370", after := _, guard := none }) (v := ?_) rfl (by kernel_rfl) (by kernel_rfl) (by kernel_rfl) (fun _ _ _ h => h) (Or.inl ⟨by rfl, ?_⟩) (by assumption) ?_
      rotate_left 1
      · (intro w hSw; (try dsimp only at hSw); go_simp <;> with_reducible rfl)
      try simp only [Act.put, List.setIfInBounds_toArray, List.set_cons_zero, List.set_cons_succ]
      refine wpAnyH_ready (rs := [8]) (by kernel_rfl) (by simp) ?_
      refine AllReadyH.cons (o := { dst := none, op := Op.store 47 (Operand.tmp 11) (Operand.tmp 10), type := 0, pos := "run.go:370", after := _, guard := none }) rfl (fun K hK => ?_) AllReadyH.nil
      go_simp
      refine hK.out _ _ (range_far (unhide KS _ hB3) (Below.heap_setCell _ _ _ _ (by show w.heap.size ≠ wb; omega))) (fun hHeld => ?_)
      clear hK K
      try simp only [Act.put, List.setIfInBounds_toArray, List.set_cons_zero, List.set_cons_succ]
      refine wpAnyH_done (by kernel_rfl) ?_ _
      go_wp2_with fail
      go_meet
      exact ⟨cap, w3, hB3, hown3, rfl⟩
    · go_simp
      refine hK.out _ _ (unhide KS _ (((Below.refl _ _).drew).alloc (Nat.le_refl _) _)) (fun hHeld => ?_)
      clear hK K
      try simp only [Act.put, List.setIfInBounds_toArray, List.set_cons_zero, List.set_cons_succ]
      refine wpAnyH_ready (rs := [3]) (by kernel_rfl) (by simp) ?_
      refine AllReadyH.cons (o := { dst := some 7, op := Op.load 47 (Operand.tmp 6), type := 47, pos := "run.go:370", after := _, guard := none }) rfl (fun K hK => ?_) AllReadyH.nil
      go_simp
      refine hK.out _ _ (unhide KS _ (((Below.refl _ _).drew).alloc (Nat.le_refl _) _)) (fun hHeld => ?_)
      clear hK K
      try simp only [Act.put, List.setIfInBounds_toArray, List.set_cons_zero, List.set_cons_succ]
      refine wpAnyH_ready (rs := [6]) (by kernel_rfl) (by simp) ?_
      refine AllReadyH.cons (o := { dst := some 10, op := Op.call { callee := Callee.builtin Builtin.append, args := #[Operand.tmp 7, Operand.tmp 9], argTypes := #[47, 47] }, type := 47, pos := "run.go:370", after := _, guard := none }) rfl (fun K hK => ?_) AllReadyH.nil
      rw [if_pos (by rfl)]
      refine wp_append_lies _ _ _ _ rfl w.heap.size 127 i5 _ 5 40 Yba.underlying47 hi5 hz5 hsz5 hby5 rfl (by omega) (.slice none 0 0) 0 [] rfl ⟨rfl, .inl ⟨rfl, rfl⟩⟩ ⟨w1.heap.size, 0, none⟩ 1 1 (slL v (.int .i64 s4)) rfl rfl ?_ ?_ (by omega) (by decide) (by decide) (by have := unhide Hs1; simp; omega) (w1.heap.size + 1) (by simp) ?_
      · intro j u hj
        have := rangeAt_new w1.drew #[.float .f64 v, .int .u64 0, .int .u64 0, .int .u64 0, .int .i64 s4] 127 _ rfl j u hj
        rw [Nat.zero_add] at this
        rw [Addr.add_mid, Nat.zero_add]
        exact this
      · intro u hu
        simp [slL] at hu
        rcases hu with rfl | rfl | rfl | rfl | rfl <;> rfl
      intro g cap w3 hown3 hgrow3 hat3 hlt3
      try simp only [Act.put, List.setIfInBounds_toArray, List.set_cons_zero, List.set_cons_succ]
      refine hK.out _ _ (unhide KS _ ((((Below.refl w1.heap.size w1).drew).alloc (Nat.le_refl _) _).grown hgrow3 (by simp) (fun k h => by cases h))) (fun hHeld => ?_)
      clear hK K
      try simp only [Act.put, List.setIfInBounds_toArray, List.set_cons_zero, List.set_cons_succ]
      have hg3 : g = w1.heap.size + 1 := hat3.elim (fun h => by cases h) id
      subst hg3
      have hB3 : Below w1.heap.size w1 w3 := (((Below.refl w1.heap.size w1).drew).alloc (Nat.le_refl _) _).grown hgrow3 (by simp) (fun k h => by cases h)
      have hf3 := (unhide HF1).of_block (hB3.block wb (by omega))
      have d135 : w3.cell? ⟨wb, 135, none⟩ = some (.slice none 0 0) := (hf3.cell (by omega)).trans (by rw [unhide Hf135])
      have z135 := hf3.frozen 135
      refine wpAnyH_take (i := 7) (oi := { dst := some 11, op := Op.nilCheck (Operand.tmp 4), type := 0, pos := "run.go:370", after := _, guard := none }) (v := ?_) rfl (by kernel_rfl) (by kernel_rfl) (by kernel_rfl) (fun _ _ _ h => h) (Or.inl ⟨by rfl, ?_⟩) (by assumption) ?_
      rotate_left 1
      · (intro w hSw; (try dsimp only at hSw); go_simp <;> with_reducible rfl)
      try simp only [Act.put, List.setIfInBounds_toArray, List.set_cons_zero, List.set_cons_succ]
      refine wpAnyH_ready (rs := [8]) (by kernel_rfl) (by simp) ?_
      refine AllReadyH.cons (o := { dst := none, op := Op.store 47 (Operand.tmp 11) (Operand.tmp 10), type := 0, pos := "run.go:370", after := _, guard := none }) rfl (fun K hK => ?_) AllReadyH.nil
      go_simp
      refine hK.out _ _ (range_far (unhide KS _ hB3) (Below.heap_setCell _ _ _ _ (by show w.heap.size ≠ wb; omega))) (fun hHeld => ?_)
      clear hK K
      try simp only [Act.put, List.setIfInBounds_toArray, List.set_cons_zero, List.set_cons_succ]
      refine wpAnyH_done (by kernel_rfl) ?_ _
      go_wp2_with fail
      go_meet
      exact ⟨cap, w3, hB3, hown3, rfl⟩
  case rest =>
  obtain ⟨cap, w3, hB3, hown3, rfl⟩ := hcut
  obtain ⟨hr3, ht3, hc1⟩ := own_range hown3
  have hf3 := (unhide HF1).of_block (hB3.block wb (by omega))
  have hf4 := hf3.set 135 (.slice (some ⟨w1.heap.size + 1, 0, none⟩) 1 cap)
  have hbe := Below.heap_setCell w3 ⟨wb, 135, none⟩ (.slice (some ⟨w1.heap.size + 1, 0, none⟩) 1 cap) (w1.heap.size + 1) (by have := unhide Hs1; show w1.heap.size + 1 ≠ wb; omega)
  have hr4 := hide (range_far hr3 hbe)
  have ht4 := hide (there_far ht3 hbe)
  have HG : Hid (w.grownBy (w3.setCell ⟨wb, 135, none⟩ (.slice (some ⟨w1.heap.size + 1, 0, none⟩) 1 cap)) (some wb)) := grown_trans (grown_below (below_more (unhide HB1) hB3) _) (grown_setCells [_] 135 w3)
  have hglt := World.block_lt_of_cell? _ _ (unhide hr4 0 _ rfl)
  generalize w3.setCell ⟨wb, 135, none⟩ (.slice (some ⟨w1.heap.size + 1, 0, none⟩) 1 cap) = w4 at hf4 hr4 ht4 HG hglt ⊢
  have e135 : w4.cell? ⟨wb, 135, none⟩ = some (.slice (some ⟨w1.heap.size + 1, 0, none⟩) 1 cap) := (hf4.cell (by omega)).trans (by simp)
  have hwb4 := hf4.lt
  clear hf3 hr3 ht3 hown3 hB3 hbe KS c135
  go_wp2_with fail
  have hw0 : IntKind.i64.wrap 0 = 0 := by decide
  refine wp_region_held_drew (S := fun w' => w'.cell? ⟨wb, 135, none⟩ = some (.slice (some ⟨w1.heap.size + 1, 0, none⟩) 1 cap)) (by kernel_rfl) e135 (fun hHeld => ?_)
  refine wpAnyH_take (i := 0) (oi := { dst := some 12, op := Op.move (Operand.tmp 0), type := 133, pos := "run.go:371", after := _, guard := none }) (v := ?_) rfl (by kernel_rfl) (by kernel_rfl) (by kernel_rfl) (fun _ _ _ h => h) (Or.inl ⟨by rfl, ?_⟩) (by assumption) ?_
  rotate_left 1
  · (intro w hSw; (try dsimp only at hSw); go_simp <;> with_reducible rfl)
  try simp only [Act.put, List.setIfInBounds_toArray, List.set_cons_zero, List.set_cons_succ]
  refine wpAnyH_take (i := 1) (oi := { dst := some 13, op := Op.nilCheck (Operand.tmp 12), type := 0, pos := "run.go:371", after := _, guard := none }) (v := ?_) rfl (by kernel_rfl) (by kernel_rfl) (by kernel_rfl) (fun _ _ _ h => h) (Or.inl ⟨by rfl, ?_⟩) (by assumption) ?_
  rotate_left 1
  · (intro w hSw; (try dsimp only at hSw); go_simp <;> with_reducible rfl)
  try simp only [Act.put, List.setIfInBounds_toArray, List.set_cons_zero, List.set_cons_succ]
  refine wpAnyH_take (i := 2) (oi := { dst := some 14, op := Op.load 47 (Operand.tmp 13), type := 47, pos := "run.go:371", after := _, guard := none }) (v := ?_) rfl (by kernel_rfl) (by kernel_rfl) (by kernel_rfl) (fun _ _ _ h => h) (Or.inl ⟨by rfl, ?_⟩) (by assumption) ?_
  rotate_left 1
  · (intro w hSw; (try dsimp only at hSw); go_simp <;> with_reducible rfl)
  try simp only [Act.put, List.setIfInBounds_toArray, List.set_cons_zero, List.set_cons_succ]
  refine wpAnyH_take (i := 3) (oi := { dst := some 15, op := Op.move (Operand.tmp 0), type := 133, pos := "run.go:371", after := _, guard := none }) (v := ?_) rfl (by kernel_rfl) (by kernel_rfl) (by kernel_rfl) (fun _ _ _ h => h) (Or.inl ⟨by rfl, ?_⟩) (by assumption) ?_
  rotate_left 1
  · (intro w hSw; (try dsimp only at hSw); go_simp <;> with_reducible rfl)
  try simp only [Act.put, List.setIfInBounds_toArray, List.set_cons_zero, List.set_cons_succ]
  refine wpAnyH_take (i := 4) (oi := { dst := some 16, op := Op.nilCheck (Operand.tmp 15), type := 0, pos := "run.go:371", after := _, guard := none }) (v := ?_) rfl (by kernel_rfl) (by kernel_rfl) (by kernel_rfl) (fun _ _ _ h => h) (Or.inl ⟨by rfl, ?_⟩) (by assumption) ?_
  rotate_left 1
  · (intro w hSw; (try dsimp only at hSw); go_simp <;> with_reducible rfl)
  try simp only [Act.put, List.setIfInBounds_toArray, List.set_cons_zero, List.set_cons_succ]
  refine wpAnyH_take (i := 5) (oi := { dst := some 17, op := Op.load 47 (Operand.tmp 16), type := 47, pos := "run.go:371", after := _, guard := none }) (v := ?_) rfl (by kernel_rfl) (by kernel_rfl) (by kernel_rfl) (fun _ _ _ h => h) (Or.inl ⟨by rfl, ?_⟩) (by assumption) ?_
  rotate_left 1
  · (intro w hSw; (try dsimp only at hSw); go_simp <;> with_reducible rfl)
  try simp only [Act.put, List.setIfInBounds_toArray, List.set_cons_zero, List.set_cons_succ]
  refine wpAnyH_take (i := 6) (oi := { dst := some 18, op := Op.call { callee := Callee.builtin Builtin.len, args := #[Operand.tmp 17], argTypes := #[47] }, type := 3, pos := "run.go:371", after := _, guard := none }) (v := ?_) rfl (by kernel_rfl) (by kernel_rfl) (by kernel_rfl) (fun _ _ _ h => h) (Or.inl ⟨by rfl, ?_⟩) (by assumption) ?_
  rotate_left 1
  · (intro w hSw; (try dsimp only at hSw); go_simp <;> with_reducible rfl)
  try simp only [Act.put, List.setIfInBounds_toArray, List.set_cons_zero, List.set_cons_succ]
  refine wpAnyH_take (i := 7) (oi := { dst := some 19, op := Op.binOp BinOp.sub 3 (Operand.tmp 18) (Operand.const (Value.int IntKind.i64 1)) 3, type := 3, pos := "run.go:371", after := _, guard := none }) (v := ?_) rfl (by kernel_rfl) (by kernel_rfl) (by kernel_rfl) (fun _ _ _ h => h) (Or.inl ⟨by rfl, ?_⟩) (by assumption) ?_
  rotate_left 1
  · (intro w hSw; (try dsimp only at hSw); go_simp <;> with_reducible rfl)
  try simp only [Act.put, List.setIfInBounds_toArray, List.set_cons_zero, List.set_cons_succ]
  refine wpAnyH_ready (rs := [8]) (by kernel_rfl) (by simp) ?_
  refine AllReadyH.cons (o := { dst := some 20, op := Op.call { callee := Callee.value (Operand.func 22), args := #[Operand.tmp 14, Operand.tmp 19], argTypes := #[133, 3] }, type := 0, pos := "run.go:371", after := _, guard := none }) rfl (fun K hK => ?_) AllReadyH.nil
  go_simp
  refine (up_any (w1.heap.size + 1) cap v s4 w4.drew (unhide hr4) (unhide ht4) hc1).mono ?_
  rintro e w5 ⟨rfl, hg5, hr5⟩
  have hb5 : w5.heap[wb]? = w4.heap[wb]? := hg5.block wb (by show wb < w4.heap.size; omega) (by have := unhide Hs1; simp; omega)
  try (go_wp2_with fail)
  refine hK.out _ _ ((World.cell?_of_block (a := ⟨wb, 135, none⟩) hb5).trans e135) (fun hHeld => ?_)
  clear hK K
  try simp only [Act.put, List.setIfInBounds_toArray, List.set_cons_zero, List.set_cons_succ]
  refine wpAnyH_done (by kernel_rfl) ?_ _
  go_wp2_with fail
  go_end0
  have hs1 := unhide Hs1
  refine ⟨rfl, w1.heap.size + 1, cap, by omega, World.block_lt_of_cell? _ _ (hr5 0 _ rfl), ?_, (hf4.of_block hb5).congr fun j hj => rfl, hr5⟩
  have hG := unhide HG
  refine ⟨hg5.os.trans hG.os, hg5.tape.trans hG.tape, hg5.output.trans hG.output, Nat.le_trans hG.size hg5.size, fun k hk hr => (hg5.block k (by show k < w4.heap.size; have := hG.size; omega) (by simp; omega)).trans (hG.block k hk hr)⟩
end Go.Proofs.Ybulkbtik

import Derived.Test.YbulkbtikMid
namespace Go.Proofs.Ybulkbtik
open Go.Conc Go.RowKit Go.MuLone
set_option linter.unusedVariables false

theorem ge_of {a b : Nat} {x y : Int} (ha : Reads a x) (hb : Reads b y) : (FloatKind.f64.format.order a b == some Ordering.gt || FloatKind.f64.format.order a b == some Ordering.eq) = decide (y ≤ x) := by
  have ho : FloatKind.f64.format.order a b = some (compare x y) := reads_order ha hb
  rw [ho]
  rcases Int.lt_trichotomy x y with h | h | h
  · rw [Int.compare_eq_lt.2 h]
    have : ¬ y ≤ x := by omega
    simp [this]
  · rw [Int.compare_eq_eq.2 h]
    have : y ≤ x := by omega
    simp [this]
  · rw [Int.compare_eq_gt.2 h]
    have : y ≤ x := by omega
    simp [this]
theorem gt_of {a b : Nat} {x y : Int} (ha : Reads a x) (hb : Reads b y) : (FloatKind.f64.format.order a b == some Ordering.gt) = decide (y < x) := by
  have ho : FloatKind.f64.format.order a b = some (compare x y) := reads_order ha hb
  rw [ho]
  rcases Int.lt_trichotomy x y with h | h | h
  · rw [Int.compare_eq_lt.2 h]
    have : ¬ y < x := by omega
    simp [this]
  · rw [Int.compare_eq_eq.2 h]
    have : ¬ y < x := by omega
    simp [this]
  · rw [Int.compare_eq_gt.2 h]
    simp [h]

theorem ended_any (v0 t : Nat) (y x : Int) (he : Bool) (a2 a3 a4 a5 a6 a7 a8 a9 : Value) (w : World) (h0 : Reads v0 y) (h1 : Reads t x) :
    Calls Yba.prog 24 #[.agg #[.float .f64 v0, .bool he, a2, a3, a4, a5, a6, a7, a8, a9], .float .f64 t] w fun e w' => e = .returned (.bool (he && decide (y ≤ x))) ∧ Below w.heap.size w w' := by
  have ho := ge_of h1 h0
  cases he
  · go_enter Yba.func24, Yba.ntmps24
    go_wp2
    go_ret
    exact ⟨rfl, (Below.refl _ _).alloc (Nat.le_refl _) _⟩
  · go_enter Yba.func24, Yba.ntmps24
    go_wp2
    go_ret
    exact ⟨rfl, (Below.refl _ _).alloc (Nat.le_refl _) _⟩

theorem bar_any (b o : Nat) (k0 k1 k2 k3 : Value) (w : World) (hc : w.cell? ⟨b, o, none⟩ = some (.int .i64 0)) :
    Calls Yba.prog 25 #[.pointer (some ⟨b, o, none⟩), .agg #[k0, k1, k2, k3]] w fun e w' => e = .returned (.bool false) ∧ Below w.heap.size w w' := by
  have hbl := World.block_lt_of_cell? _ _ hc
  go_enter Yba.func25, Yba.ntmps25
  go_wp2_with fail
  refine (iload_any b o 0 _ (by go_simp)).mono ?_
  rintro e w1 ⟨rfl, rfl⟩
  go_wp2_with fail
  go_ret
  exact ⟨rfl, (Below.refl _ _).alloc (Nat.le_refl _) _⟩

def keyOf (v : Nat) : Array Value := #[.float .f64 v, .int .u64 0, .int .u64 0, .int .u64 0]
def keyL (v : Nat) : List Value := [.float .f64 v, .int .u64 0, .int .u64 0, .int .u64 0]
theorem key_one (v : Nat) : (keyOf v).all (·.oneCell') = true := by simp [keyOf, Value.oneCell']
theorem build67 (w : World) : (Instr.build 67 #[]).run Yba.prog w = .ok (.agg (keyOf 0)) w := run_build w 67 #[] (keyOf 0) (by kernel_rfl)

theorem first_none (wb : Nat) (w : World) (h : w.cell? ⟨wb, 135, none⟩ = some (.slice none 0 0)) :
    Calls Yba.prog 23 #[.pointer (some ⟨wb, 0, none⟩)] w fun e w' => e = .returned (.tuple #[.agg (keyOf 0), .bool false]) ∧ Below w.heap.size w w' := by
  have hbl := World.block_lt_of_cell? _ _ h
  have hbd := build67
  go_enter Yba.func23, Yba.ntmps23
  go_wp2_with fail
  go_loopw [] (fun wr => wr = w.alloc (.cells #[.float .f64 0, .int .u64 0, .int .u64 0, .int .u64 0] 67)) (fun _ => 0)
  case atStart => rfl
  case round =>
    subst hrel
    go_wp2_with (first
      | (guard_target = wpList _ _ _ (⟨_, Op.store 67 _ _, _, _, _, _⟩ :: _) _ _; go_must (refine wpList_store_mid rfl _ _ _ rfl w.heap.size 0 (keyOf 0) rfl rfl (there_new w _ 67 4 _ rfl (Nat.le_refl _)) info67 (key_one 0) ?_))
      | go_in)
    have ht : (w.alloc (.cells #[.float .f64 0, .int .u64 0, .int .u64 0, .int .u64 0] 67)).there w.heap.size 0 4 := there_new w _ 67 4 _ rfl (Nat.le_refl _)
    have hr := World.rangeAt_setCells_same _ w.heap.size 0 (keyL 0) ht
    refine bodyPost_ret (v := .tuple #[.agg (keyOf 0), .bool false]) (results_two Yba.results23 rfl rfl (run_loadVar_mid _ _ _ _ (keyL 0) _ hr Yba.underlying67 rfl info67)) rfl ⟨rfl, ?_⟩
    exact below_setCells _ (Nat.le_refl _) _ _ ((Below.refl _ _).alloc (Nat.le_refl _) _)

def slL (v : Nat) (s4 : Value) : List Value := [.float .f64 v, .int .u64 0, .int .u64 0, .int .u64 0, s4]

set_option maxHeartbeats 400000 in
theorem first_some (wb qb cap v : Nat) (s4 : Value) (w : World) (h : w.cell? ⟨wb, 135, none⟩ = some (.slice (some ⟨qb, 0, none⟩) 1 cap)) (hz : w.cell? ⟨wb, 138, none⟩ = some (.int .i64 0))
    (q : w.rangeAt qb 0 (slL v s4)) :
    Calls Yba.prog 23 #[.pointer (some ⟨wb, 0, none⟩)] w fun e w' => e = .returned (.tuple #[.agg (keyOf v), .bool true]) ∧ Below w.heap.size w w' := by
  have hbl := World.block_lt_of_cell? _ _ h
  have q0 : w.rangeAt qb 0 (keyL v) := fun j u hj => q j u (by
    match j, hj with
    | 0, hj => exact hj
    | 1, hj => exact hj
    | 2, hj => exact hj
    | 3, hj => exact hj
    | j + 4, hj => simp [keyL] at hj)
  have hB1 : Below w.heap.size w (w.alloc (.cells #[.float .f64 0, .int .u64 0, .int .u64 0, .int .u64 0] 67)) := (Below.refl _ _).alloc (Nat.le_refl _) _
  have q1 := rangeAt_below q0 hB1
  have q2 := hide q1
  clear q1 q0 q
  go_enter Yba.func23, Yba.ntmps23
  go_wp2_with fail
  go_loopw [] (fun wr => wr = w.alloc (.cells #[.float .f64 0, .int .u64 0, .int .u64 0, .int .u64 0] 67)) (fun _ => 0)
  case atStart => rfl
  case round =>
    obtain ⟨wA, hA⟩ : ∃ wA, wA = w.alloc (.cells #[.float .f64 0, .int .u64 0, .int .u64 0, .int .u64 0] 67) := ⟨_, rfl⟩
    rw [← hA] at hrel q2 hB1
    have hB2 := hide hB1
    have c1 := cell_stays hB1 h
    have c2 := cell_stays hB1 hz
    have tA : Hid (wA.there w.heap.size 0 4) := by rw [hA]; exact there_new w _ 67 4 _ rfl (Nat.le_refl _)
    have sA : w.heap.size < wA.heap.size := by rw [hA]; simp
    clear hA hB1
    subst hrel
    go_upto_region 3 with (first
      | (guard_target = wpList _ _ _ (⟨_, Op.load 67 _, _, _, _, _⟩ :: _) _ _; go_must (refine wpList_load_mid rfl _ _ rfl qb 0 rfl (keyL v) _ (unhide q2) Yba.underlying67 rfl info67 ?_))
      | (guard_target = wpList _ _ _ (⟨_, Op.store 67 _ _, _, _, _, _⟩ :: _) _ _; go_must (refine wpList_store_mid rfl _ _ _ rfl wr.heap.size 0 (keyOf v) rfl rfl (there_new wr _ 67 4 _ rfl (Nat.le_refl _)) info67 (key_one v) ?_))
      | go_in)
    have hE : Below wr.heap.size wr ((wr.alloc (.cells #[.float .f64 0, .int .u64 0, .int .u64 0, .int .u64 0] 67)).setCells wr.heap.size 0 (keyOf v).toList) := below_setCells _ (Nat.le_refl _) _ _ ((Below.refl _ _).alloc (Nat.le_refl _) _)
    have hR : Hid (((wr.alloc (.cells #[.float .f64 0, .int .u64 0, .int .u64 0, .int .u64 0] 67)).setCells wr.heap.size 0 (keyOf v).toList).rangeAt wr.heap.size 0 (keyL v)) := World.rangeAt_setCells_same _ wr.heap.size 0 (keyL v) (there_new wr _ 67 4 _ rfl (Nat.le_refl _))
    generalize (wr.alloc (.cells #[.float .f64 0, .int .u64 0, .int .u64 0, .int .u64 0] 67)).setCells wr.heap.size 0 (keyOf v).toList = wK at hE hR ⊢
    have c3 := cell_stays hE c2
    have tK : Hid (wK.there w.heap.size 0 4) := fun j hj => ⟨by rw [hE.cell (p := ⟨w.heap.size, 0 + j, none⟩) sA]; exact (unhide tA j hj).1, by rw [hE.frozen (p := ⟨w.heap.size, 0 + j, none⟩) sA]; exact (unhide tA j hj).2⟩
    have HE := hide hE
    clear hE c1 c2
    go_wp2_with fail
    simp only [Act.put]
    go_big_quiet (fail)
    go_wp2_with (first
      | (guard_target = wpList _ _ _ (⟨_, Op.load 67 _, _, _, _, _⟩ :: _) _ _; go_must (refine wpList_load_mid rfl _ _ rfl wr.heap.size 0 rfl (keyL v) _ (unhide hR) Yba.underlying67 rfl info67 ?_))
      | (guard_target = wpList _ _ _ (⟨_, Op.store 67 _ _, _, _, _, _⟩ :: _) _ _; go_must (refine wpList_store_mid rfl _ _ _ rfl w.heap.size 0 (keyOf v) rfl rfl (unhide tK) info67 (key_one v) ?_))
      | go_in)
    have hr := World.rangeAt_setCells_same _ w.heap.size 0 (keyL v) (unhide tK)
    refine bodyPost_ret (v := .tuple #[.agg (keyOf v), .bool true]) (results_two Yba.results23 rfl rfl (run_loadVar_mid _ _ _ _ (keyL v) _ hr Yba.underlying67 rfl info67)) rfl ⟨rfl, ?_⟩
    exact below_setCells _ (Nat.le_refl _) _ _ (below_drewN (below_more (unhide hB2) (unhide HE)) nq)
end Go.Proofs.Ybulkbtik

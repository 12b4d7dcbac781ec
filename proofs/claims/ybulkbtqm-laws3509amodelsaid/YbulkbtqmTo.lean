import Derived.Test.YbulkbtqmKey
namespace Go.Proofs.Ybulkbtqm
open Go.RowKit
set_option linter.unusedVariables false

def markList (mg : Int) (mk : ByteArray) : List Value := idList mg ++ [Value.string mk]
abbrev markArr (mg : Int) (mk : ByteArray) : Array Value := (markList mg mk).toArray
theorem mark20 (mg : Int) (mk : ByteArray) : (markArr mg mk)[20]? = some (.string mk) := rfl
theorem mark_ids (w : World) (mg : Int) (mk : ByteArray) (t : TypeId) (n : Nat) (hn : n = w.heap.size) : (w.alloc (.cells (markArr mg mk) t)).rangeAt n 0 (idList mg) := by
  intro j v hj
  refine rangeAt_new w (markArr mg mk) t n hn j v ?_
  have hl : j < (idList mg).length := (List.getElem?_eq_some_iff.1 hj).1
  show (idList mg ++ [Value.string mk])[j]? = some v
  rw [List.getElem?_append_left hl]; exact hj
theorem rangeAt_drewN {w : World} {b o : Nat} {cs : List Value} (h : w.rangeAt b o cs) (n : Nat) : (w.drewN n).rangeAt b o cs := h

section
variable {w : World} {st SB CB BB n cap : Nat} {g sh : Nat → Nat} {rm : Nat → Bool} {T : Nat → TD}

theorem conv_key (hM : Mem w st SB CB BB n cap g sh rm T) (i : Nat) (hi : i < n) : (convert 23 9 (.slice (some ⟨BB, 2 * i, none⟩) 2 2)).run Yba.prog w = .ok (.string (keyStr i)) w := by
  refine run_convert_bytes_arg _ 23 5 Yba.underlying23 Yba.underlying5 BB (2 * i) 2 2 [(kb0 i : Int), (kb1 i : Int)] rfl (fun j hj => ?_) 9 Yba.underlying9
  match j, hj with
  | 0, _ => exact hM.b0 i hi
  | 1, _ => exact hM.b1 i hi

set_option maxHeartbeats 400000 in
set_option maxRecDepth 100000 in
theorem to_far (hM : Mem w st SB CB BB n cap g sh rm T) (hn : n ≤ 600) (i : Nat) (hi : i < n) (hg : g i ≤ 255) (mg : Nat) (hmg : mg ≤ 255) (mk : ByteArray) (hne : g i ≠ mg) :
    Calls Yba.prog 9 #[.pointer (some ⟨st, 0, none⟩), .int .i32 i, .agg (markArr mg mk)] w fun e w' => e = .returned (.int .i64 (cmpI (g i) mg)) ∧ Below w.heap.size w w' := by
  have c1 := hM.slots
  have i0 : (0 : Int) ≤ (i : Int) := by omega
  have i1 : (i : Int) < (n : Int) := by omega
  have b1 := World.block_lt_of_cell? _ _ c1
  have r1 := hide (World.rangeAt_alloc (hM.ids hi) (.cells (markArr mg mk) 60))
  have r2 := hide (mark_ids w mg mk 60 _ rfl)
  have hc : (cmpI (g i) mg != 0) = true := by
    unfold cmpI
    split
    · rfl
    · split
      · rfl
      · omega
  have hM := hide hM
  go_enter Yba.func9, Yba.ntmps9
  go_wp2_with fail
  go_quiet ((go_at_call 13; exact Calls.quiet_of_same (compare_any _ SB (i * 36) w.heap.size 0 (g i) mg hg hmg (by exact rangeAt_drewN (unhide r1) _) (by exact rangeAt_drewN (unhide r2) _) 20 20)))
  go_wp2_with fail
  go_ret
  exact ⟨rfl, below_drewN ((Below.refl _ _).alloc (Nat.le_refl _) _) nq⟩

set_option maxHeartbeats 400000 in
set_option maxRecDepth 100000 in
theorem to_empty (hM : Mem w st SB CB BB n cap g sh rm T) (hn : n ≤ 600) (i : Nat) (hi : i < n) (mg : Nat) (hmg : mg ≤ 255) (mk : ByteArray) (heq : g i = mg) (he : (mk.toList == []) = true) :
    Calls Yba.prog 9 #[.pointer (some ⟨st, 0, none⟩), .int .i32 i, .agg (markArr mg mk)] w fun e w' => e = .returned (.int .i64 (-1)) ∧ Below w.heap.size w w' := by
  have c1 := hM.slots
  have i0 : (0 : Int) ≤ (i : Int) := by omega
  have i1 : (i : Int) < (n : Int) := by omega
  have b1 := World.block_lt_of_cell? _ _ c1
  have hB0 : Below w.heap.size w (w.alloc (.cells (markArr mg mk) 60)) := (Below.refl _ _).alloc (Nat.le_refl _) _
  have r1 := World.rangeAt_alloc (hM.ids hi) (.cells (markArr mg mk) 60)
  rw [heq] at r1
  have r1 := hide r1
  have r2 := hide (mark_ids w mg mk 60 _ rfl)
  have k20 : (w.alloc (.cells (markArr mg mk) 60)).cell? ⟨w.heap.size, 20, none⟩ = some (.string mk) := rangeAt_new w (markArr mg mk) 60 _ rfl 20 _ (mark20 mg mk)
  have hc : cmpI mg mg = 0 := by unfold cmpI; simp
  have hM := hide hM
  have heq := hide heq
  go_enter Yba.func9, Yba.ntmps9
  go_wp2_with fail
  go_quiet ((go_at_call 13; exact Calls.quiet_of_same (compare_any _ SB (i * 36) w.heap.size 0 mg mg hmg hmg (by exact rangeAt_drewN (unhide r1) _) (by exact rangeAt_drewN (unhide r2) _) 20 20)))
  go_wp2_with fail
  have hB1 := below_drewN hB0 nq
  refine (skey_any ((unhide hM).later hB1) hn i hi).mono ?_
  rintro e w2 ⟨rfl, hB2⟩
  have hB3 := below_more hB1 hB2
  have hcv := conv_key ((unhide hM).later hB3) i hi
  have k21 : w2.cell? ⟨w.heap.size, 20, none⟩ = some (.string mk) := cell_stays hB2 k20
  go_wp2_with fail
  go_ret
  exact ⟨rfl, hB3⟩

set_option maxHeartbeats 400000 in
set_option maxRecDepth 100000 in
theorem to_same (hM : Mem w st SB CB BB n cap g sh rm T) (hn : n ≤ 600) (i : Nat) (hi : i < n) (mg : Nat) (hmg : mg ≤ 255) (mk : ByteArray) (heq : g i = mg) (he : (mk.toList == []) = false) (hs : ((keyStr i).toList == mk.toList) = true) :
    Calls Yba.prog 9 #[.pointer (some ⟨st, 0, none⟩), .int .i32 i, .agg (markArr mg mk)] w fun e w' => e = .returned (.int .i64 (0)) ∧ Below w.heap.size w w' := by
  have c1 := hM.slots
  have i0 : (0 : Int) ≤ (i : Int) := by omega
  have i1 : (i : Int) < (n : Int) := by omega
  have b1 := World.block_lt_of_cell? _ _ c1
  have hB0 : Below w.heap.size w (w.alloc (.cells (markArr mg mk) 60)) := (Below.refl _ _).alloc (Nat.le_refl _) _
  have r1 := World.rangeAt_alloc (hM.ids hi) (.cells (markArr mg mk) 60)
  rw [heq] at r1
  have r1 := hide r1
  have r2 := hide (mark_ids w mg mk 60 _ rfl)
  have k20 : (w.alloc (.cells (markArr mg mk) 60)).cell? ⟨w.heap.size, 20, none⟩ = some (.string mk) := rangeAt_new w (markArr mg mk) 60 _ rfl 20 _ (mark20 mg mk)
  have hc : cmpI mg mg = 0 := by unfold cmpI; simp
  have hM := hide hM
  have heq := hide heq
  go_enter Yba.func9, Yba.ntmps9
  go_wp2_with fail
  go_quiet ((go_at_call 13; exact Calls.quiet_of_same (compare_any _ SB (i * 36) w.heap.size 0 mg mg hmg hmg (by exact rangeAt_drewN (unhide r1) _) (by exact rangeAt_drewN (unhide r2) _) 20 20)))
  go_wp2_with fail
  have hB1 := below_drewN hB0 nq
  refine (skey_any ((unhide hM).later hB1) hn i hi).mono ?_
  rintro e w2 ⟨rfl, hB2⟩
  have hB3 := below_more hB1 hB2
  have hcv := conv_key ((unhide hM).later hB3) i hi
  have k21 : w2.cell? ⟨w.heap.size, 20, none⟩ = some (.string mk) := cell_stays hB2 k20
  go_wp2_with fail
  go_ret
  exact ⟨rfl, hB3⟩

set_option maxHeartbeats 400000 in
set_option maxRecDepth 100000 in
theorem to_less (hM : Mem w st SB CB BB n cap g sh rm T) (hn : n ≤ 600) (i : Nat) (hi : i < n) (mg : Nat) (hmg : mg ≤ 255) (mk : ByteArray) (heq : g i = mg) (he : (mk.toList == []) = false) (hs : ((keyStr i).toList == mk.toList) = false) (hl : Op.bytesLess (keyStr i).toList mk.toList = true) :
    Calls Yba.prog 9 #[.pointer (some ⟨st, 0, none⟩), .int .i32 i, .agg (markArr mg mk)] w fun e w' => e = .returned (.int .i64 (-1)) ∧ Below w.heap.size w w' := by
  have c1 := hM.slots
  have i0 : (0 : Int) ≤ (i : Int) := by omega
  have i1 : (i : Int) < (n : Int) := by omega
  have b1 := World.block_lt_of_cell? _ _ c1
  have hB0 : Below w.heap.size w (w.alloc (.cells (markArr mg mk) 60)) := (Below.refl _ _).alloc (Nat.le_refl _) _
  have r1 := World.rangeAt_alloc (hM.ids hi) (.cells (markArr mg mk) 60)
  rw [heq] at r1
  have r1 := hide r1
  have r2 := hide (mark_ids w mg mk 60 _ rfl)
  have k20 : (w.alloc (.cells (markArr mg mk) 60)).cell? ⟨w.heap.size, 20, none⟩ = some (.string mk) := rangeAt_new w (markArr mg mk) 60 _ rfl 20 _ (mark20 mg mk)
  have hc : cmpI mg mg = 0 := by unfold cmpI; simp
  have hM := hide hM
  have heq := hide heq
  go_enter Yba.func9, Yba.ntmps9
  go_wp2_with fail
  go_quiet ((go_at_call 13; exact Calls.quiet_of_same (compare_any _ SB (i * 36) w.heap.size 0 mg mg hmg hmg (by exact rangeAt_drewN (unhide r1) _) (by exact rangeAt_drewN (unhide r2) _) 20 20)))
  go_wp2_with fail
  have hB1 := below_drewN hB0 nq
  refine (skey_any ((unhide hM).later hB1) hn i hi).mono ?_
  rintro e w2 ⟨rfl, hB2⟩
  have hB3 := below_more hB1 hB2
  have hcv := conv_key ((unhide hM).later hB3) i hi
  have k21 : w2.cell? ⟨w.heap.size, 20, none⟩ = some (.string mk) := cell_stays hB2 k20
  go_wp2_with fail
  go_ret
  exact ⟨rfl, hB3⟩

set_option maxHeartbeats 400000 in
set_option maxRecDepth 100000 in
theorem to_more (hM : Mem w st SB CB BB n cap g sh rm T) (hn : n ≤ 600) (i : Nat) (hi : i < n) (mg : Nat) (hmg : mg ≤ 255) (mk : ByteArray) (heq : g i = mg) (he : (mk.toList == []) = false) (hs : ((keyStr i).toList == mk.toList) = false) (hl : Op.bytesLess (keyStr i).toList mk.toList = false) :
    Calls Yba.prog 9 #[.pointer (some ⟨st, 0, none⟩), .int .i32 i, .agg (markArr mg mk)] w fun e w' => e = .returned (.int .i64 (1)) ∧ Below w.heap.size w w' := by
  have c1 := hM.slots
  have i0 : (0 : Int) ≤ (i : Int) := by omega
  have i1 : (i : Int) < (n : Int) := by omega
  have b1 := World.block_lt_of_cell? _ _ c1
  have hB0 : Below w.heap.size w (w.alloc (.cells (markArr mg mk) 60)) := (Below.refl _ _).alloc (Nat.le_refl _) _
  have r1 := World.rangeAt_alloc (hM.ids hi) (.cells (markArr mg mk) 60)
  rw [heq] at r1
  have r1 := hide r1
  have r2 := hide (mark_ids w mg mk 60 _ rfl)
  have k20 : (w.alloc (.cells (markArr mg mk) 60)).cell? ⟨w.heap.size, 20, none⟩ = some (.string mk) := rangeAt_new w (markArr mg mk) 60 _ rfl 20 _ (mark20 mg mk)
  have hc : cmpI mg mg = 0 := by unfold cmpI; simp
  have hM := hide hM
  have heq := hide heq
  go_enter Yba.func9, Yba.ntmps9
  go_wp2_with fail
  go_quiet ((go_at_call 13; exact Calls.quiet_of_same (compare_any _ SB (i * 36) w.heap.size 0 mg mg hmg hmg (by exact rangeAt_drewN (unhide r1) _) (by exact rangeAt_drewN (unhide r2) _) 20 20)))
  go_wp2_with fail
  have hB1 := below_drewN hB0 nq
  refine (skey_any ((unhide hM).later hB1) hn i hi).mono ?_
  rintro e w2 ⟨rfl, hB2⟩
  have hB3 := below_more hB1 hB2
  have hcv := conv_key ((unhide hM).later hB3) i hi
  have k21 : w2.cell? ⟨w.heap.size, 20, none⟩ = some (.string mk) := cell_stays hB2 k20
  go_wp2_with fail
  go_ret
  exact ⟨rfl, hB3⟩

theorem to_any (hM : Mem w st SB CB BB n cap g sh rm T) (hn : n ≤ 600) (i : Nat) (hi : i < n) (hg : g i ≤ 255) (mg : Nat) (hmg : mg ≤ 255) (mk : ByteArray) :
    Calls Yba.prog 9 #[.pointer (some ⟨st, 0, none⟩), .int .i32 i, .agg (markArr mg mk)] w fun e w' => ∃ c : Int, e = .returned (.int .i64 c) ∧ decide (0 < c) = !(inB g mg mk i) ∧ Below w.heap.size w w' := by
  by_cases heq : g i = mg
  · have e0 : inB g mg mk i = (mk.toList == [] || (Op.bytesLess (keyStr i).toList mk.toList || ((keyStr i).toList == mk.toList))) := by
      unfold inB keyLe
      rw [if_neg (by omega), if_pos heq]
    rw [e0]
    cases he : (mk.toList == [])
    · cases hs : ((keyStr i).toList == mk.toList)
      · cases hl : Op.bytesLess (keyStr i).toList mk.toList
        · exact (to_more hM hn i hi mg hmg mk heq he hs hl).mono fun e w' h => ⟨1, h.1, rfl, h.2⟩
        · exact (to_less hM hn i hi mg hmg mk heq he hs hl).mono fun e w' h => ⟨-1, h.1, rfl, h.2⟩
      · exact (to_same hM hn i hi mg hmg mk heq he hs).mono fun e w' h => ⟨0, h.1, by simp, h.2⟩
    · exact (to_empty hM hn i hi mg hmg mk heq he).mono fun e w' h => ⟨-1, h.1, rfl, h.2⟩
  · refine (to_far hM hn i hi hg mg hmg mk heq).mono fun e w' h => ⟨_, h.1, ?_, h.2⟩
    unfold inB cmpI
    by_cases h1 : g i < mg
    · simp [h1]
    · have h2 : mg < g i := by omega
      simp [h1, h2, heq]

end
end Go.Proofs.Ybulkbtqm

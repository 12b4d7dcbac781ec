import Derived.Test.YbulkbtqmMem
namespace Go.Proofs.Ybulkbtqm
open Go.RowKit
set_option linter.unusedVariables false

theorem below_more {w X w' : World} (h : Below w.heap.size w X) (hB : Below X.heap.size X w') : Below w.heap.size w w' := h.trans (hB.mono h.size)

section
variable {w : World} {st SB CB BB n cap : Nat} {g sh : Nat → Nat} {rm : Nat → Bool} {T : Nat → TD}

set_option maxRecDepth 100000 in
theorem in_any (hM : Mem w st SB CB BB n cap g sh rm T) (hn : n ≤ 600) (i : Nat) (hi : i < n) :
    Calls Yba.prog 17 #[.agg #[.int .i32 0, .int .i32 ((2 * i : Nat) : Int), .int .i32 2], .slice (some ⟨CB, 0, none⟩) 1 1] w fun e w' => e = .returned (.slice (some ⟨BB, 2 * i, none⟩) 2 2) ∧ Below w.heap.size w w' := by
  have c1 := hM.chunk
  have k1 : (2 * (i : Int) + 2) ≤ (cap : Int) := by have := hM.capge; omega
  have k2 : ((2 * i : Nat) : Int) = 2 * (i : Int) := by omega
  have hM := hide hM
  have b1 := World.block_lt_of_cell? _ _ c1
  go_enter Yba.func17, Yba.ntmps17
  go_wp2
  go_quiet (fail)
  go_wp2
  rw [show 2 * i + 2 - 2 * i = 2 by omega]
  go_ret
  exact ⟨rfl, below_drewN ((Below.refl _ _).alloc (Nat.le_refl _) _) nq⟩

set_option maxRecDepth 100000 in
theorem bytes_any (hM : Mem w st SB CB BB n cap g sh rm T) (hn : n ≤ 600) (i : Nat) (hi : i < n) :
    Calls Yba.prog 16 #[.pointer (some ⟨st, 6, none⟩), .agg #[.int .i32 0, .int .i32 ((2 * i : Nat) : Int), .int .i32 2]] w fun e w' => e = .returned (.slice (some ⟨BB, 2 * i, none⟩) 2 2) ∧ Below w.heap.size w w' := by
  have c1 := hM.chunks
  have hM := hide hM
  have b1 := World.block_lt_of_cell? _ _ c1
  go_enter Yba.func16, Yba.ntmps16
  go_wp2_with fail
  go_region_with (first
    | (go_at_call 17; refine (in_any (((unhide hM).later ((Below.refl _ _).alloc (Nat.le_refl _) _)).later ((Below.refl _ _).drew)) hn i hi).mono ?_; rintro e w' ⟨rfl, hB⟩))
  all_goals (try go_wp2)
  all_goals (go_ret; exact ⟨rfl, below_more (((Below.refl _ _).alloc (Nat.le_refl _) _).drew) hB⟩)

set_option maxRecDepth 100000 in
theorem skey_any (hM : Mem w st SB CB BB n cap g sh rm T) (hn : n ≤ 600) (i : Nat) (hi : i < n) :
    Calls Yba.prog 14 #[.pointer (some ⟨st, 0, none⟩), .int .i32 i] w fun e w' => e = .returned (.slice (some ⟨BB, 2 * i, none⟩) 2 2) ∧ Below w.heap.size w w' := by
  have c1 := hM.slots
  have q0 := hM.cell hi 20 (by omega)
  have q1 := hM.cell hi 21 (by omega)
  have q2 := hM.cell hi 22 (by omega)
  have q3 := hM.cell hi 23 (by omega)
  simp only [slotCell] at q0 q1 q2 q3
  have i0 : (0 : Int) ≤ (i : Int) := by omega
  have i1 : (i : Int) < (n : Int) := by omega
  have hM := hide hM
  go_enter Yba.func14, Yba.ntmps14
  go_wp2_with fail
  go_region_held3 (fun w' => w'.cell? ⟨st, 1, none⟩ = some (.slice (some ⟨SB, 0, none⟩) n n) ∧ w'.cell? ⟨SB, i * 36 + 20, none⟩ = some (.int .i32 0) ∧ w'.cell? ⟨SB, i * 36 + 21, none⟩ = some (.int .i32 ((2 * i : Nat) : Int)) ∧ w'.cell? ⟨SB, i * 36 + 22, none⟩ = some (.int .i32 2) ∧ w'.cell? ⟨SB, i * 36 + 23, none⟩ = some (.int .i32 2))
    ((first | exact ⟨c1, q0, q1, q2, q3⟩ | exact ⟨cell_stays hB c1, cell_stays hB q0, cell_stays hB q1, cell_stays hB q2, cell_stays hB q3⟩))
    ((go_at_call 16; refine (bytes_any ((unhide hM).later ((Below.refl _ _).drew)) hn i hi).mono ?_; rintro e w' ⟨rfl, hB0⟩; have hB := below_more ((Below.refl w.heap.size w).drew) hB0; clear hB0))
  all_goals (try go_wp2)
  all_goals (go_ret; exact ⟨rfl, hB⟩)

end

end Go.Proofs.Ybulkbtqm

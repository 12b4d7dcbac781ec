import Derived.Test.YbulkbtkoGreatFmtNewN
import Derived.Test.YbulkbtkoGreatFmtBits
import Derived.LoopN
namespace Go.Proofs.YbulkbtkoGreatFmt
open Go.RowKit
set_option linter.unusedVariables false
set_option linter.unusedSimpArgs false

set_option maxHeartbeats 4000000 in
set_option maxRecDepth 100000 in
theorem bitsLen_any (x : Int) (w : World) (h0 : 0 ≤ x) (h1 : x ≤ 18446744073709551615) :
    Calls Ybaz.prog 56 #[.int .u64 x] w fun e w' => e = .returned (.int .i64 (Lib.bitLen x.toNat)) ∧ w' = w := by
  go_enter Ybaz.func56, Ybaz.ntmps56
  go_wp2_with (go_at_call 59; refine (Ybaz.bits_Len64 x _ h0 h1).mono ?_; rintro e w' ⟨rfl, rfl⟩)
  all_goals (go_ret; exact ⟨rfl, rfl⟩)

theorem insNil_any (w : World) (f : Value) :
    Calls Ybaz.prog 80 #[.slice none 0 0, .int .i64 0, .int .i64 0, f] w fun e w' => e = .returned (.tuple #[]) ∧ w' = w := by
  go_enter Ybaz.func80, Ybaz.ntmps80
  go_wp2_with fail
  refine wp_loop_rounds 1 ?_
  rw [rounds_succ]
  go_wp2_with fail
  go_end0
  exact ⟨rfl, rfl⟩

theorem pdqNil_any (w : World) (f : Value) (l : Int) :
    Calls Ybaz.prog 61 #[.slice none 0 0, .int .i64 0, .int .i64 0, .int .i64 l, f] w fun e w' => e = .returned (.tuple #[]) ∧ w' = w := by
  go_enter Ybaz.func61, Ybaz.ntmps61
  go_wp2_with fail
  refine wp_loop_rounds 1 ?_
  rw [rounds_succ]
  go_wp2_with (go_at_call 80; refine (insNil_any _ _).mono ?_; rintro e w' ⟨rfl, rfl⟩)
  exact bodyPost_ret (results_none (by rfl) _ _ _) rfl ⟨rfl, rfl⟩

theorem sortNil_any (w : World) (f : Value) :
    Calls Ybaz.prog 49 #[.slice none 0 0, f] w fun e w' => e = .returned (.tuple #[]) ∧ w' = w := by
  go_enter Ybaz.func49, Ybaz.ntmps49
  go_wp2_with (first
    | (go_at_call 56; refine (bitsLen_any 0 _ (by omega) (by omega)).mono ?_; rintro e w' ⟨rfl, rfl⟩)
    | (go_at_call 61; refine (pdqNil_any _ _ _).mono ?_; rintro e w' ⟨rfl, rfl⟩))
  go_end0
  exact ⟨rfl, rfl⟩

theorem annNil_any (w : World) (n f : Value) :
    Calls Ybaz.prog 32 #[n, .slice none 0 0, f] w fun e w' => e = .returned (.tuple #[]) ∧ w' = w := by
  go_enter Ybaz.func32, Ybaz.ntmps32
  go_wp2_with fail
  refine wp_loop_rounds 1 ?_
  rw [rounds_succ]
  go_wp2_with fail
  go_end0
  exact ⟨rfl, rfl⟩

theorem repairFor_any {w : World} {nb : Nat} (c : w.cell? ⟨nb, 520, none⟩ = some (.slice none 0 0)) (j : Int) :
    Calls Ybaz.prog 23 #[.pointer (some ⟨nb, 0, none⟩), .int .i64 j] w fun e w' => e = .returned (.pointer none) ∧ w' = w := by
  go_enter Ybaz.func23, Ybaz.ntmps23
  go_wp2_with fail
  refine wp_loop_rounds 1 ?_
  rw [rounds_succ]
  go_wp2_with fail
  go_ret
  exact ⟨rfl, rfl⟩

theorem where_any {w : World} {nb m0 : Nat} (c : w.cell? ⟨nb, 515, none⟩ = some (.map (some m0))) (hm : w.heap[m0]? = some (.map #[] 0)) (f : Value) :
    Calls Ybaz.prog 33 #[.pointer (some ⟨nb, 0, none⟩), f] w fun e w' => e = .returned (.slice none 0 0) ∧ w' = w.alloc (.mapIter (some m0) 0 #[] 0) := by
  have hrg := run_range_map (P := Ybaz.prog) w 54 34 128 m0 #[] 0 Ybaz.underlying54 hm
  have hnx := fun ty => run_next_map (P := Ybaz.prog) w ty m0 0 0 #[] #[] 0 hm (by simp) (Nat.le_refl _)
  have hnx' : ∀ ty, (Instr.next (.pointer (some ⟨w.heap.size, 0, none⟩)) false ty).run Ybaz.prog (w.alloc (.mapIter (some m0) 0 #[] 0)) = .ok (.tuple #[.bool false]) (w.alloc (.mapIter (some m0) 0 #[] 0)) := fun ty => by
    rcases hnx ty with h | ⟨e, he, _⟩
    · exact h.2
    · exfalso; simp [leftOf] at he
  clear hnx
  go_enter Ybaz.func33, Ybaz.ntmps33
  go_wp2_with fail
  refine wp_loop_rounds 1 ?_
  rw [rounds_succ]
  go_wp2_with (go_at_call 49; refine (sortNil_any _ _).mono ?_; rintro e w' ⟨rfl, rfl⟩)
  go_ret
  exact ⟨rfl, rfl⟩

/-- reroute with no pointer: two new blocks, nothing else. -/
theorem reroute_any {w : World} {nb m0 : Nat} (c : w.cell? ⟨nb, 515, none⟩ = some (.map (some m0))) (hm : w.heap[m0]? = some (.map #[] 0)) (f : Value) :
    Calls Ybaz.prog 25 #[.pointer (some ⟨nb, 0, none⟩), f] w fun e w' => e = .returned (.tuple #[]) ∧ Below w.heap.size w w' ∧ w'.heap.size = w.heap.size + 2 := by
  have hlt : nb < w.heap.size := World.block_lt_of_cell? _ _ c
  have hml : m0 < w.heap.size := by
    rcases Nat.lt_or_ge m0 w.heap.size with h | h
    · exact h
    · simp [Array.getElem?_eq_none h] at hm
  go_enter Ybaz.func25, Ybaz.ntmps25
  go_upto_region 1 with fail
  obtain ⟨wb, hwb⟩ : ∃ wb, wb = w.alloc (.cells #[.pointer (some ⟨nb, 0, none⟩)] 26) := ⟨_, rfl⟩
  have k1 : wb.cell? ⟨w.heap.size, 0, none⟩ = some (.pointer (some ⟨nb, 0, none⟩)) := by rw [hwb]; go_simp
  have kz : wb.heap.size = w.heap.size + 1 := by rw [hwb]; simp
  have kb : Below w.heap.size w wb := by rw [hwb]; exact (Below.refl _ w).alloc (Nat.le_refl _) _
  rw [← hwb]
  clear hwb
  have k2 : wb.cell? ⟨nb, 515, none⟩ = some (.map (some m0)) := (kb.cell hlt).trans c
  have k3 : wb.heap[m0]? = some (.map #[] 0) := (kb.block _ hml).trans hm
  have Hk := hide (And.intro kz kb)
  have k4 : (wb.alloc (.mapIter (some m0) 0 #[] 0)).cell? ⟨w.heap.size, 0, none⟩ = some (.pointer (some ⟨nb, 0, none⟩)) := by
    rw [World.cell?_of_block (a := ⟨w.heap.size, 0, none⟩) (Below.heap_alloc _ _ _ (by show w.heap.size < wb.heap.size; omega))]
    exact k1
  clear kz kb c hm
  go_region_held3 (fun w' => w'.cell? ⟨w.heap.size, 0, none⟩ = some (.pointer (some ⟨nb, 0, none⟩)))
    ((first | exact k1 | exact k4))
    ((first
      | (go_at_call 33; refine (where_any (w := wb.drew) k2 k3 _).mono ?_; rintro e w1 ⟨rfl, rfl⟩)
      | (go_at_call 32; refine (annNil_any _ _ _).mono ?_; rintro e w1 ⟨rfl, rfl⟩)))
  go_wp2_with fail
  go_end0
  obtain ⟨kz, kb⟩ := unhide Hk
  refine ⟨rfl, ?_, by show (wb.alloc _).heap.size = _; simp [kz]⟩
  have h1 : Below w.heap.size w (wb.alloc (.mapIter (some m0) 0 #[] 0)) := kb.alloc (by omega) _
  exact h1.trans ((Same.refl _).drew.below _)

end Go.Proofs.YbulkbtkoGreatFmt

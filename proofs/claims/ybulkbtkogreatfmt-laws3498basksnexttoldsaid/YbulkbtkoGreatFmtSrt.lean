import Derived.Shelf.SlSortCmp.WholeK
import Derived.Shelf.Lay
import Derived.Ground.SlsfProg
import Derived.Test.YbulkbtkoGreatFmtCmp
namespace Go.Proofs
open Go.Shelf Go.RowKit Go.Lib Go.Sort
shelf_lay_g SlLaysF0.n6 Slsf 6 at Ybaz 37 as Ybaz.sortHd
end Go.Proofs
namespace Go.Proofs.YbulkbtkoGreatFmt
open Go.Shelf Go.RowKit Go.Lib Go.Sort
set_option linter.unusedVariables false
set_option linter.unusedSimpArgs false

/-- A node's number within bounds. -/
abbrev Nd (N : Nat) := { j : Nat // j < N }
def encN (cw id : Nat → Nat) (s N : Nat) (x : Nd N) : List Value := hdL cw id s x.1
def cfN (cI : Nat → Int) (id : Nat → Nat) (N : Nat) (x y : Nd N) : Int := cmpI (cI x.1) (id x.1) (cI y.1) (id y.1)
theorem lt_iff (cI : Nat → Int) (id : Nat → Nat) (N : Nat) (x y : Nd N) : ltOf (cfN cI id N) x y = true ↔ (cI x.1 < cI y.1 ∨ (cI x.1 = cI y.1 ∧ id x.1 < id y.1)) := by
  unfold ltOf
  rw [decide_eq_true_eq]
  unfold cfN cmpI
  by_cases h : cI x.1 < cI y.1 ∨ (cI x.1 = cI y.1 ∧ id x.1 < id y.1)
  · rw [if_pos h]
    exact ⟨fun _ => h, fun _ => by omega⟩
  · rw [if_neg h]
    refine ⟨fun h2 => ?_, fun h2 => absurd h2 h⟩
    split at h2 <;> omega
theorem swoN (cI : Nat → Int) (id : Nat → Nat) (N : Nat) : SWO (ltOf (cfN cI id N)) where
  irrefl x := by
    have h := lt_iff cI id N x x
    cases e : ltOf (cfN cI id N) x x
    · rfl
    · have := h.1 e; omega
  trans x y z h1 h2 := by
    rw [lt_iff] at *
    omega
  ntrans x y z h1 h2 := by
    have a := lt_iff cI id N x y
    have b := lt_iff cI id N y z
    have c := lt_iff cI id N x z
    cases e : ltOf (cfN cI id N) x z
    · rfl
    · have h3 := c.1 e
      rw [h1] at a
      rw [h2] at b
      simp at a b
      omega

set_option maxHeartbeats 4000000 in
set_option maxRecDepth 100000 in
/-- The comparison that askNext hands to the sort. -/
theorem cmp38 {W : World} {pb nb ib N s : Nat} {cw id : Nat → Nat} {cI : Nat → Int} (hcw : ∀ i, Reads (cw i) (cI i)) (cp : W.cell? ⟨pb, 0, none⟩ = some (.pointer (some ⟨nb, 0, none⟩))) (c1 : W.cell? ⟨nb, 1, none⟩ = some (.slice (some ⟨ib, 0, none⟩) N N)) (ci : ∀ j, j < N → W.cell? ⟨ib, j, none⟩ = some (.int .u64 ((id j : Nat) : Int))) (x y : Nd N) :
    Calls Ybaz.prog 38 #[.agg (encN cw id s N x).toArray, .agg (encN cw id s N y).toArray, .pointer (some ⟨pb, 0, none⟩)] W fun e w' => e = .returned (.int .i64 (cfN cI id N x y)) ∧ ∃ q os', w' = grow (W.drewN q) os' := by
  obtain ⟨a, ha⟩ := x
  obtain ⟨b, hb⟩ := y
  show Calls Ybaz.prog 38 #[.agg #[.int .i64 ((a : Nat) : Int), .float .f64 (cw a), .int .i64 ((shD (id s) (id a) : Nat) : Int)], .agg #[.int .i64 ((b : Nat) : Int), .float .f64 (cw b), .int .i64 ((shD (id s) (id b) : Nat) : Int)], .pointer (some ⟨pb, 0, none⟩)] W _
  have hcon := fun W' => cmpn_any (cw a) (id a) (cw b) (id b) (cI a) (cI b) W' (hcw a) (hcw b)
  have da := ci a ha
  have db := ci b hb
  have a0 : (0 : Int) ≤ (a : Int) := by omega
  have a1 : (a : Int) < (N : Int) := by omega
  have b0 : (0 : Int) ≤ (b : Int) := by omega
  have b1 : (b : Int) < (N : Int) := by omega
  show Calls Ybaz.prog 38 _ W fun e w' => e = .returned (.int .i64 (cmpI (cI a) (id a) (cI b) (id b))) ∧ _
  generalize cmpI (cI a) (id a) (cI b) (id b) = rr at hcon ⊢
  clear ci
  go_enter Ybaz.func38, Ybaz.ntmps38
  go_upto_region 1 with fail
  obtain ⟨w1, hw1⟩ : ∃ w1, w1 = (W.alloc (.cells #[.int .i64 ((a : Nat) : Int), .float .f64 (cw a), .int .i64 ((shD (id s) (id a) : Nat) : Int)] 65)).alloc (.cells #[.int .i64 ((b : Nat) : Int), .float .f64 (cw b), .int .i64 ((shD (id s) (id b) : Nat) : Int)] 65) := ⟨_, rfl⟩
  have hB : Below W.heap.size W w1 := by rw [hw1]; exact ((Below.refl _ _).alloc (Nat.le_refl _) _).alloc (by simp) _
  have p0 : w1.cell? ⟨W.heap.size, 0, none⟩ = some (.int .i64 ((a : Nat) : Int)) := by rw [hw1]; go_simp
  have p1 : w1.cell? ⟨W.heap.size, 1, none⟩ = some (.float .f64 (cw a)) := by rw [hw1]; go_simp
  have r0 : w1.cell? ⟨W.heap.size + 1, 0, none⟩ = some (.int .i64 ((b : Nat) : Int)) := by rw [hw1]; go_simp
  have r1 : w1.cell? ⟨W.heap.size + 1, 1, none⟩ = some (.float .f64 (cw b)) := by rw [hw1]; go_simp
  have cp' := cell_stays hB cp
  have c1' := cell_stays hB c1
  have da' := cell_stays hB da
  have db' := cell_stays hB db
  rw [← hw1]
  have Hw1 := hide hw1
  clear hw1 hB cp c1 da db
  go_region_held3 (fun w' => w'.cell? ⟨W.heap.size, 0, none⟩ = some (.int .i64 ((a : Nat) : Int)) ∧ w'.cell? ⟨W.heap.size, 1, none⟩ = some (.float .f64 (cw a)) ∧ w'.cell? ⟨W.heap.size + 1, 0, none⟩ = some (.int .i64 ((b : Nat) : Int)) ∧ w'.cell? ⟨W.heap.size + 1, 1, none⟩ = some (.float .f64 (cw b)) ∧ w'.cell? ⟨pb, 0, none⟩ = some (.pointer (some ⟨nb, 0, none⟩)) ∧ w'.cell? ⟨nb, 1, none⟩ = some (.slice (some ⟨ib, 0, none⟩) N N) ∧ w'.cell? ⟨ib, a, none⟩ = some (.int .u64 ((id a : Nat) : Int)) ∧ w'.cell? ⟨ib, b, none⟩ = some (.int .u64 ((id b : Nat) : Int)))
    (exact ⟨p0, p1, r0, r1, cp', c1', da', db'⟩)
    ((go_at_call 39; refine (hcon _).mono ?_; rintro e w2 ⟨rfl, rfl⟩))
  go_wp2_with fail
  go_ret
  exact ⟨rfl, 1, _, by rw [unhide Hw1, alloc_eq_grow, alloc_eq_grow, grow_grow]; rfl⟩

end Go.Proofs.YbulkbtkoGreatFmt

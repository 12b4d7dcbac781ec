import Derived.Test.YbulkbtkoGreatFmtOth
namespace Go.Proofs.YbulkbtkoGreatFmt
open Go.RowKit
set_option linter.unusedVariables false
set_option linter.unusedSimpArgs false

/-- Which of two nodes is nearer. -/
def cmpI (x1 : Int) (i1 : Nat) (x2 : Int) (i2 : Nat) : Int := if x1 < x2 ∨ (x1 = x2 ∧ i1 < i2) then -1 else if x2 < x1 ∨ (x2 = x1 ∧ i2 < i1) then 1 else 0

set_option maxRecDepth 100000 in
theorem cmpn_any (c1 i1 c2 i2 : Nat) (x1 x2 : Int) (w : World) (h1 : Reads c1 x1) (h2 : Reads c2 x2) :
    Calls Ybaz.prog 39 #[.float .f64 c1, .int .u64 (i1 : Int), .float .f64 c2, .int .u64 (i2 : Int)] w fun e w' => e = .returned (.int .i64 (cmpI x1 i1 x2 i2)) ∧ w' = w := by
  have b1 := fun w => before_any c1 i1 c2 i2 x1 x2 w h1 h2
  have b2 := fun w => before_any c2 i2 c1 i1 x2 x1 w h2 h1
  unfold cmpI
  by_cases p1 : x1 < x2 ∨ (x1 = x2 ∧ i1 < i2)
  · have d1 : decide (x1 < x2 ∨ (x1 = x2 ∧ i1 < i2)) = true := decide_eq_true p1
    rw [if_pos p1]
    simp only [d1] at b1
    clear p1 d1 h1 h2
    go_enter Ybaz.func39, Ybaz.ntmps39
    go_wp2_with (go_at_call 15; refine (b1 _).mono ?_; rintro e w1 ⟨rfl, rfl⟩)
    go_ret
    exact ⟨rfl, rfl⟩
  · have d1 : decide (x1 < x2 ∨ (x1 = x2 ∧ i1 < i2)) = false := decide_eq_false p1
    rw [if_neg p1]
    simp only [d1] at b1
    clear p1 d1
    by_cases p2 : x2 < x1 ∨ (x2 = x1 ∧ i2 < i1)
    · have d2 : decide (x2 < x1 ∨ (x2 = x1 ∧ i2 < i1)) = true := decide_eq_true p2
      rw [if_pos p2]
      simp only [d2] at b2
      clear p2 d2 h1 h2
      go_enter Ybaz.func39, Ybaz.ntmps39
      go_upto_region 3 with (go_at_call 15; refine (b1 _).mono ?_; rintro e w1 ⟨rfl, rfl⟩)
      go_wp2_with (go_at_call 15; refine (b2 _).mono ?_; rintro e w1 ⟨rfl, rfl⟩)
      go_ret
      exact ⟨rfl, rfl⟩
    · have d2 : decide (x2 < x1 ∨ (x2 = x1 ∧ i2 < i1)) = false := decide_eq_false p2
      rw [if_neg p2]
      simp only [d2] at b2
      clear p2 d2 h1 h2
      go_enter Ybaz.func39, Ybaz.ntmps39
      go_upto_region 3 with (go_at_call 15; refine (b1 _).mono ?_; rintro e w1 ⟨rfl, rfl⟩)
      go_wp2_with (go_at_call 15; refine (b2 _).mono ?_; rintro e w1 ⟨rfl, rfl⟩)
      go_ret
      exact ⟨rfl, rfl⟩

end Go.Proofs.YbulkbtkoGreatFmt

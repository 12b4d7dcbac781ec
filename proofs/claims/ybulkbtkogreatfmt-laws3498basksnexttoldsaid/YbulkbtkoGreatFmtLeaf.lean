import Derived.Test.YbulkbtkoGreatFmtBase
import Derived.Test.YbulkbtkoGreatFmtBits
import Derived.Lib.ItoaNum
import Derived.Laws.Bits64b
namespace Go.Proofs.YbulkbtkoGreatFmt
open Go.RowKit
set_option linter.unusedVariables false
set_option linter.unusedSimpArgs false

/-- The k-th hex digit from the left. -/
def dig (a k : Nat) : Nat := a / 2 ^ (60 - 4 * k) % 16
/-- How many leading hex digits two ids share. -/
def shD (a b : Nat) : Nat := (64 - Lib.bitLen (a ^^^ b)) / 4

theorem and15_i64 (a : Nat) (ha : a < 18446744073709551616) : bits .and .i64 (wrap64 (a : Int)) 15 = ((a % 16 : Nat) : Int) := by
  have h1 : (BitVec.ofInt 64 (wrap64 (a : Int))).toNat = a := by
    rw [BitVec.toNat_ofInt]
    unfold wrap64
    omega
  show IntKind.i64.wrap ((BitVec.ofInt 64 (wrap64 (a : Int)) &&& BitVec.ofInt 64 15).toNat : Int) = _
  rw [BitVec.toNat_and, h1, show (BitVec.ofInt 64 15).toNat = 2 ^ 4 - 1 from rfl, Nat.and_two_pow_sub_one_eq_mod, IntKind.wrap_i64]
  omega
theorem and15_u64 (a : Nat) (ha : a < 18446744073709551616) : bits .and .u64 (a : Int) 15 = ((a % 16 : Nat) : Int) := by
  have h := bits_and_u64_nat a 15 ha (by omega)
  rw [show (15 : Nat) = 2 ^ 4 - 1 from rfl, Nat.and_two_pow_sub_one_eq_mod] at h
  exact h

theorem div_lt64 (a m : Nat) (ha : a < 18446744073709551616) : a / 2 ^ m < 18446744073709551616 := Nat.lt_of_le_of_lt (Nat.div_le_self _ _) ha
theorem cast_div (a m : Nat) : (a : Int) / 2 ^ m = ((a / 2 ^ m : Nat) : Int) := by simp

theorem digit_any (a k : Nat) (w : World) (ha : a < 18446744073709551616) (hk : k < 16) :
    Calls Ybaz.prog 19 #[.int .u64 (a : Int), .int .i64 (k : Int)] w fun e w' => e = .returned (.int .i64 ((dig a k : Nat) : Int)) ∧ w' = w := by
  have e1 : bits .and .i64 (wrap64 ((a : Int) / 2 ^ (4 * (15 - k)))) 15 = ((dig a k : Nat) : Int) := by
    rw [cast_div, and15_i64 _ (div_lt64 _ _ ha), show 4 * (15 - k) = 60 - 4 * k by omega]; rfl
  go_enter Ybaz.func19, Ybaz.ntmps19
  go_wp2
  go_ret
  exact ⟨rfl, rfl⟩

theorem dig_lt (a k : Nat) : dig a k < 16 := Nat.mod_lt _ (by omega)

theorem zdigit_any (a k : Nat) (w : World) (ha : a < 18446744073709551616) (hk : k < 16) :
    Calls Ybaz.prog 18 #[.int .u64 (a : Int), .int .i64 (k : Int)] w fun e w' => e = .returned (.int .i64 ((dig a k : Nat) : Int)) ∧ w' = w := by
  have e1 : bits .and .u64 ((a : Int) / 2 ^ (60 - 4 * k)) 15 = ((dig a k : Nat) : Int) := by
    rw [cast_div, and15_u64 _ (div_lt64 _ _ ha)]; rfl
  have hd := dig_lt a k
  go_enter Ybaz.func18, Ybaz.ntmps18
  go_wp2
  go_ret
  exact ⟨rfl, rfl⟩

theorem shared_any (a b : Nat) (w : World) (ha : a < 18446744073709551616) (hb : b < 18446744073709551616) :
    Calls Ybaz.prog 30 #[.int .u64 (a : Int), .int .u64 (b : Int)] w fun e w' => e = .returned (.int .i64 ((shD a b : Nat) : Int)) ∧ w' = w := by
  have hx := bits_xor_u64_nat a b ha hb
  have hlt : a ^^^ b < 2 ^ 64 := Nat.xor_lt_two_pow (by omega) (by omega)
  have hl : Lib.bitLen (a ^^^ b) ≤ 64 := Lib.bitLen_le _ 64 (by omega) hlt
  go_enter Ybaz.func30, Ybaz.ntmps30
  go_wp2_with fail
  refine (Ybaz.bits_LeadingZeros64 _ _ (by omega) (by omega)).mono ?_
  rintro e w1 ⟨rfl, rfl⟩
  rw [Int.toNat_natCast]
  go_wp2_with fail
  go_ret
  refine ⟨congrArg Ending.returned (congrArg (Value.int IntKind.i64) ?_), rfl⟩
  unfold shD
  generalize Lib.bitLen (a ^^^ b) = l at hl ⊢
  omega

theorem before_any (c1 i1 c2 i2 : Nat) (x1 x2 : Int) (w : World) (h1 : Reads c1 x1) (h2 : Reads c2 x2) :
    Calls Ybaz.prog 15 #[.float .f64 c1, .int .u64 (i1 : Int), .float .f64 c2, .int .u64 (i2 : Int)] w fun e w' => e = .returned (.bool (decide (x1 < x2 ∨ (x1 = x2 ∧ i1 < i2)))) ∧ w' = w := by
  have hl := lt_of' h1 h2
  have he := eq_of' h1 h2
  by_cases hlt : x1 < x2
  · have d : decide (x1 < x2) = true := by simp [hlt]
    rw [d] at hl
    go_enter Ybaz.func15, Ybaz.ntmps15
    go_wp2
    go_ret
    refine ⟨?_, rfl⟩
    simp [hlt]
  · have d : decide (x1 < x2) = false := by simp; omega
    rw [d] at hl
    by_cases heq : x1 = x2
    · have d2 : decide (x1 = x2) = true := by simp [heq]
      rw [d2] at he
      have Heq := hide heq
      clear heq
      go_enter Ybaz.func15, Ybaz.ntmps15
      go_wp2
      go_ret
      refine ⟨?_, rfl⟩
      have := unhide Heq
      simp [this]
    · have d2 : decide (x1 = x2) = false := by simp [heq]
      rw [d2] at he
      have Heq := hide heq
      clear heq
      go_enter Ybaz.func15, Ybaz.ntmps15
      go_wp2
      go_ret
      refine ⟨?_, rfl⟩
      have := unhide Heq
      simp [this, hlt]

end Go.Proofs.YbulkbtkoGreatFmt

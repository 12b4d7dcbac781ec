import Derived.Test.YbulkbtkoGreatFmtLeaf
namespace Go.Proofs.YbulkbtkoGreatFmt
open Go.RowKit
set_option linter.unusedVariables false
set_option linter.unusedSimpArgs false

theorem xor_zero {a b : Nat} (h : a ^^^ b = 0) : a = b := by
  have e : (a ^^^ b) ^^^ b = 0 ^^^ b := by rw [h]
  rwa [Nat.xor_assoc, Nat.xor_self, Nat.xor_zero, Nat.zero_xor] at e

theorem dig_xor (a b i : Nat) : dig (a ^^^ b) i = dig a i ^^^ dig b i := by
  unfold dig
  rw [Nat.xor_div_two_pow, show (16 : Nat) = 2 ^ 4 from rfl, Nat.xor_mod_two_pow]

theorem top_zero (z : Nat) (hz : z < 2 ^ 64) : ∀ k, k ≤ 16 → (∀ i, i < k → dig z i = 0) → z < 2 ^ (64 - 4 * k)
  | 0, _, _ => hz
  | k + 1, hk, h => by
    have ih := top_zero z hz k (by omega) fun i hi => h i (by omega)
    have h0 := h k (by omega)
    unfold dig at h0
    have e : 2 ^ (64 - 4 * k) = 2 ^ (60 - 4 * k) * 16 := by
      rw [show 64 - 4 * k = (60 - 4 * k) + 4 by omega, Nat.pow_add]
    rw [e] at ih
    have hlt : z / 2 ^ (60 - 4 * k) < 16 := (Nat.div_lt_iff_lt_mul (Nat.two_pow_pos _)).2 (by rw [Nat.mul_comm]; exact ih)
    rw [Nat.mod_eq_of_lt hlt] at h0
    have hz0 : z / 2 ^ (60 - 4 * k) = 0 := h0
    rw [show 64 - 4 * (k + 1) = 60 - 4 * k by omega]
    have := Nat.lt_of_div_eq_zero (Nat.two_pow_pos _) hz0
    exact this

theorem shD_of {a b k : Nat} (ha : a < 18446744073709551616) (hb : b < 18446744073709551616) (hk : k ≤ 16) (heq : ∀ i, i < k → dig a i = dig b i) (hne : k = 16 ∨ dig a k ≠ dig b k) : shD a b = k := by
  have hz : a ^^^ b < 2 ^ 64 := Nat.xor_lt_two_pow (by omega) (by omega)
  have htop := top_zero (a ^^^ b) hz k hk fun i hi => by rw [dig_xor, heq i hi, Nat.xor_self]
  have hle : Lib.bitLen (a ^^^ b) ≤ 64 - 4 * k := Lib.bitLen_le _ _ (by omega) htop
  unfold shD
  rcases hne with h | h
  · subst h
    omega
  · have hk15 : k < 16 := by
      rcases Nat.lt_or_ge k 16 with c | c
      · exact c
      · have : k = 16 := by omega
        subst this
        exfalso
        apply h
        have h0 : a ^^^ b = 0 := by have : a ^^^ b < 1 := htop; omega
        have : a = b := xor_zero h0
        rw [this]
    have hd : dig (a ^^^ b) k ≠ 0 := by
      rw [dig_xor]
      intro e
      exact h (xor_zero e)
    have hge : 2 ^ (60 - 4 * k) ≤ a ^^^ b := by
      apply Decidable.byContradiction
      intro c
      apply hd
      unfold dig
      rw [Nat.div_eq_of_lt (by omega)]
    have hb2 := Lib.bitLenAux_bounds 64 (a ^^^ b) hz (by have := Nat.two_pow_pos (60 - 4 * k); omega)
    have hlt : 2 ^ (60 - 4 * k) < 2 ^ Lib.bitLen (a ^^^ b) := Nat.lt_of_le_of_lt hge hb2.2.2
    have hll : 60 - 4 * k < Lib.bitLen (a ^^^ b) := (Nat.pow_lt_pow_iff_right (by omega)).1 hlt
    omega

theorem shD_lt {a b : Nat} (ha : a < 18446744073709551616) (hb : b < 18446744073709551616) (hne : a ≠ b) : shD a b < 16 := by
  have hz : a ^^^ b < 2 ^ 64 := Nat.xor_lt_two_pow (by omega) (by omega)
  have h0 : a ^^^ b ≠ 0 := fun h => hne (xor_zero h)
  have hb2 := Lib.bitLenAux_bounds 64 (a ^^^ b) hz h0
  have : 1 ≤ Lib.bitLen (a ^^^ b) := hb2.1
  unfold shD
  omega
theorem shD_self (a : Nat) : shD a a = 16 := by
  unfold shD
  rw [Nat.xor_self]
  decide
theorem shD_le (a b : Nat) : shD a b ≤ 16 := by unfold shD; omega

theorem zshared_any (a b : Nat) (w : World) (ha : a < 18446744073709551616) (hb : b < 18446744073709551616) :
    Calls Ybaz.prog 8 #[.int .u64 (a : Int), .int .u64 (b : Int)] w fun e w' => e = .returned (.int .i64 ((shD a b : Nat) : Int)) ∧ w' = w := by
  go_enter Ybaz.func8, Ybaz.ntmps8
  go_wp2_with fail
  go_loopw [5] (fun kv wr => ∃ k : Nat, k ≤ 16 ∧ kv = .int .i64 (k : Int) ∧ Hid (∀ i, i < k → dig a i = dig b i) ∧ wr = w) (fun kv _ => 16 - (intOf kv).toNat)
  case atStart => exact ⟨0, by omega, rfl, fun i hi => by omega, rfl⟩
  case round =>
    obtain ⟨k, hk, rfl, hall, rfl⟩ := hrel
    by_cases hlt : k < 16
    · have e1 : bits .and .u64 ((a : Int) / 2 ^ (60 - 4 * k)) 15 = ((dig a k : Nat) : Int) := by
        rw [cast_div, and15_u64 _ (div_lt64 _ _ ha)]; rfl
      have e2 : bits .and .u64 ((b : Int) / 2 ^ (60 - 4 * k)) 15 = ((dig b k : Nat) : Int) := by
        rw [cast_div, and15_u64 _ (div_lt64 _ _ hb)]; rfl
      by_cases hd : dig a k = dig b k
      · have Hd := hide hd
        rw [← hd] at e2
        clear hd
        go_wp2_with fail
        refine ⟨⟨k + 1, by omega, rfl, fun i hi => ?_, by first | rfl | trivial⟩, by simp [intOf]; omega⟩
        by_cases c : i = k
        · subst c; exact unhide Hd
        · exact unhide hall i (by omega)
      · have t1 : (((dig a k : Nat) : Int) != ((dig b k : Nat) : Int)) = true := by simp; omega
        have t2 : ¬ (((dig a k : Nat) : Int) = ((dig b k : Nat) : Int)) := by omega
        have Hd := hide hd
        clear hd
        have hs : shD a b = k := shD_of ha hb hk (unhide hall) (.inr (unhide Hd))
        have Hs := hide hs
        clear hs
        go_wp2_with fail
        go_ret
        exact ⟨by rw [unhide Hs]; rfl, rfl⟩
    · obtain rfl : k = 16 := by omega
      have hs := hide (shD_of ha hb hk (unhide hall) (.inl rfl))
      go_wp2_with fail
      go_ret
      exact ⟨by rw [unhide hs]; rfl, rfl⟩

end Go.Proofs.YbulkbtkoGreatFmt

import Derived.Maps.OwnSet
import Derived.Maps.Views
namespace Go.Proofs.Ybulkbtko
open Go.Maps Go.WideAt

/-- The i-th number of a list (0 beyond its end), under a name that the walk leaves alone. -/
def at0 (zs : List Int) (i : Nat) : Int := zs.getD i 0

/-- The value last recorded at key j among the first n pairs. -/
def lastV (ks vs : List Int) : Nat → Int → Option Int
  | 0, _ => none
  | n + 1, j => if at0 ks n = j then some (at0 vs n) else lastV ks vs n j

/-- How many different keys stand among the first n. -/
def dcnt (ks vs : List Int) : Nat → Nat
  | 0 => 0
  | n + 1 => if (lastV ks vs n (at0 ks n)).isSome then dcnt ks vs n else dcnt ks vs n + 1

/-- The map behind n stores, as read; q: the elements' kind. -/
def mapN (q : IntKind) (ks vs : List Int) : Nat → DataW Unit
  | 0 => .map []
  | n + 1 => (mapN q ks vs n).put (.int .i64 (at0 ks n)) (.lit (.int q (at0 vs n)))

theorem mapN_tidy (q : IntKind) (ks vs : List Int) : ∀ n, Tidy (mapN q ks vs n)
  | 0 => tidy_empty
  | n + 1 => (mapN_tidy q ks vs n).put (by simp [IsKeyLit]) _

theorem int_lit_ne {a b : Int} (h : a ≠ b) : (Lit.int .i64 a) ≠ (Lit.int .i64 b) := fun e => h (by injection e)

theorem has_mapN (q : IntKind) (ks vs : List Int) (j : Int) : ∀ n, Maps.has (mapN q ks vs n) (.int .i64 j) = (lastV ks vs n j).isSome
  | 0 => by simp [mapN, lastV, Maps.has]
  | n + 1 => by
    unfold mapN lastV
    by_cases h : at0 ks n = j
    · rw [if_pos h, h, has_put_same (mapN_tidy q ks vs n).isMap (by simp [IsKeyLit])]; rfl
    · rw [if_neg h, has_put_other (int_lit_ne (fun e => h e.symm)), has_mapN q ks vs j n]

theorem atKey_mapN (q : IntKind) (ks vs : List Int) (j : Int) (z : Int) : ∀ n, (mapN q ks vs n).atKey (.int .i64 j) (.lit (.int q z)) = .lit (.int q ((lastV ks vs n j).getD z))
  | 0 => by simp [mapN, lastV, DataW.atKey]
  | n + 1 => by
    unfold mapN lastV
    by_cases h : at0 ks n = j
    · rw [if_pos h, h, atKey_put_same (mapN_tidy q ks vs n).isMap (by simp [IsKeyLit])]; rfl
    · rw [if_neg h, atKey_put_other (int_lit_ne (fun e => h e.symm)), atKey_mapN q ks vs j z n]

theorem size_mapN (q : IntKind) (ks vs : List Int) : ∀ n, Maps.size (mapN q ks vs n) = dcnt ks vs n
  | 0 => rfl
  | n + 1 => by
    unfold mapN dcnt
    rw [size_put (mapN_tidy q ks vs n), has_mapN, size_mapN q ks vs n]

theorem dcnt_le (ks vs : List Int) : ∀ n, dcnt ks vs n ≤ n
  | 0 => Nat.le_refl _
  | n + 1 => by
    have := dcnt_le ks vs n
    unfold dcnt
    split <;> omega

theorem lastV_some_lt (ks vs : List Int) (j : Int) : ∀ n i, i < n → at0 ks i = j → (lastV ks vs n j).isSome = true
  | 0, _, h, _ => absurd h (Nat.not_lt_zero _)
  | n + 1, i, h, e => by
    unfold lastV
    by_cases g : at0 ks n = j
    · rw [if_pos g]; rfl
    · rw [if_neg g]
      refine lastV_some_lt ks vs j n i ?_ e
      rcases Nat.lt_succ_iff_lt_or_eq.1 h with h | h
      · exact h
      · subst h; exact absurd e g

theorem lastV_none (ks vs : List Int) (j : Int) : ∀ n, (∀ i, i < n → at0 ks i ≠ j) → lastV ks vs n j = none
  | 0, _ => rfl
  | n + 1, h => by
    unfold lastV
    rw [if_neg (h n (Nat.lt_succ_self n)), lastV_none ks vs j n fun i hi => h i (Nat.lt_succ_of_lt hi)]

theorem lastV_hit (ks vs : List Int) (j : Int) (i : Nat) (e : at0 ks i = j) : ∀ n, i < n → (∀ l, i < l → l < n → at0 ks l ≠ j) → lastV ks vs n j = some (at0 vs i)
  | 0, h, _ => absurd h (Nat.not_lt_zero _)
  | n + 1, h, g => by
    unfold lastV
    by_cases c : i = n
    · subst c; rw [if_pos e]
    · rw [if_neg (g n (by omega) (Nat.lt_succ_self n)), lastV_hit ks vs j i e n (by omega) fun l a b => g l a (by omega)]

theorem dcnt_hit (ks vs : List Int) (i l : Nat) (h : l < i) (e : at0 ks l = at0 ks i) : dcnt ks vs (i + 1) = dcnt ks vs i := by
  show (if _ then _ else _) = _
  rw [if_pos (lastV_some_lt ks vs _ i l h e)]

theorem dcnt_miss (ks vs : List Int) (i : Nat) (h : ∀ l, l < i → at0 ks l ≠ at0 ks i) : dcnt ks vs (i + 1) = dcnt ks vs i + 1 := by
  show (if _ then _ else _) = _
  rw [lastV_none ks vs _ i h]; rfl

end Go.Proofs.Ybulkbtko

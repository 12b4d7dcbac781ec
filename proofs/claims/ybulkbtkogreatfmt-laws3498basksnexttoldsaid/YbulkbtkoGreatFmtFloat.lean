import Derived.Test.YbulkbtkoGreatFmtCards
import Derived.Laws.FloatArith
namespace Go.Proofs.YbulkbtkoGreatFmt
open Ieee

/-- The word stands for the whole number x. -/
def Reads (v : Nat) (x : Int) : Prop := ∃ (s : Bool) (k : Nat), double.read v = .number s (x.natAbs * 2 ^ k) (-(k : Int)) ∧ (x ≠ 0 → s = decide (x < 0))

theorem signed_at {x : Int} {s : Bool} (h : x ≠ 0 → s = decide (x < 0)) (k u : Nat) : signed s (x.natAbs * 2 ^ k) u = x * (2 ^ (k + u) : Nat) := by
  have e : (x.natAbs * 2 ^ k) <<< u = x.natAbs * 2 ^ (k + u) := by rw [Nat.shiftLeft_eq, Nat.mul_assoc, ← Nat.pow_add]
  unfold signed
  rw [e]
  generalize 2 ^ (k + u) = q
  by_cases h0 : x = 0
  · subst h0; cases s <;> simp
  · rw [h h0]
    by_cases hx : x < 0
    · simp only [hx, decide_true, if_true, Int.natCast_mul]
      rw [show ((x.natAbs : Nat) : Int) = -x by omega, Int.neg_mul, Int.neg_neg]
    · simp only [hx, decide_false, Bool.false_eq_true, if_false, Int.natCast_mul]
      rw [show ((x.natAbs : Nat) : Int) = x by omega]

theorem reads_order {a b : Nat} {x y : Int} (ha : Reads a x) (hb : Reads b y) : double.order a b = some (compare x y) := by
  obtain ⟨s, k, e1, h1⟩ := ha
  obtain ⟨t, l, e2, h2⟩ := hb
  unfold Format.order
  rw [e1, e2]
  show some (compare (signed s _ _) (signed t _ _)) = _
  rw [signed_at h1, signed_at h2]
  have q1 : k + ((-(k : Int)) - min (-(k : Int)) (-(l : Int))).toNat = max k l := by omega
  have q2 : l + ((-(l : Int)) - min (-(k : Int)) (-(l : Int))).toNat = max k l := by omega
  rw [q1, q2]
  have hp : (0 : Int) < ((2 ^ max k l : Nat) : Int) := by have := Nat.two_pow_pos (max k l); omega
  generalize ((2 ^ max k l : Nat) : Int) = q at hp
  congr 1
  rcases Int.lt_trichotomy x y with h | h | h
  · rw [Int.compare_eq_lt.2 h, Int.compare_eq_lt.2 (Int.mul_lt_mul_of_pos_right h hp)]
  · subst h; rw [Int.compare_eq_eq.2 rfl, Int.compare_eq_eq.2 rfl]
  · rw [Int.compare_eq_gt.2 h, Int.compare_eq_gt.2 (Int.mul_lt_mul_of_pos_right h hp)]

theorem cut_shift (neg : Bool) (d c B : Nat) (hd : d ≠ 0) (h : B ≤ c) : Toward.even.cut neg (d * 2 ^ c) B = d * 2 ^ (c - B) := by
  unfold Toward.cut
  have hl : (d * 2 ^ c).log2 ≥ c := by
    rw [ge_iff_le, Nat.le_log2 (by have := Nat.two_pow_pos c; exact Nat.mul_ne_zero hd (by omega))]
    exact Nat.le_mul_of_pos_left _ (by omega)
  have hm : min B ((d * 2 ^ c).log2 + 2) = B := by omega
  rw [hm, Nat.shiftLeft_eq, Nat.one_mul]
  have e : d * 2 ^ c = (d * 2 ^ (c - B)) * 2 ^ B := by rw [Nat.mul_assoc, ← Nat.pow_add]; congr 2; omega
  have hp := Nat.two_pow_pos B
  have e1 : d * 2 ^ c / 2 ^ B = d * 2 ^ (c - B) := by rw [e, Nat.mul_div_cancel _ hp]
  have e2 : d * 2 ^ c % 2 ^ B = 0 := by rw [e, Nat.mul_mod_left]
  dsimp only
  rw [e1, e2]
  have hq : (2 ^ B == 2 * 0) = false := by simp
  simp [hq]

theorem read_word (neg : Bool) (p r : Nat) (hp : p < 2046) (h1 : 2 ^ 52 ≤ r) (h2 : r < 2 ^ 53) :
    double.read (double.word neg (min (p * double.binade + r) double.infRung)) = .number neg r (-1074 + (p : Int)) := by
  have hb : double.binade = 4503599627370496 := rfl
  have hi : double.infRung = 2047 * 4503599627370496 := rfl
  have hs : double.signWeight = 2048 * 4503599627370496 := rfl
  have hl : double.leastPlace = -1074 := rfl
  have g1 : 4503599627370496 ≤ r := h1
  have g2 : r < 9007199254740992 := h2
  have hm : min (p * double.binade + r) double.infRung = p * 4503599627370496 + r := by rw [hb, hi]; omega
  rw [hm]
  have hword : double.word neg (p * 4503599627370496 + r) = (if neg then 1 else 0) * (2048 * 4503599627370496) + (p * 4503599627370496 + r) := by
    unfold Format.word; rw [hs]; cases neg <;> simp
  rw [hword]
  unfold Format.read
  simp only [hb, hi, hs, hl]
  have r1 : ((if neg then 1 else 0) * (2048 * 4503599627370496) + (p * 4503599627370496 + r)) % (2048 * 4503599627370496) = p * 4503599627370496 + r := by
    cases neg <;> simp <;> omega
  have r2 : (((if neg then 1 else 0) * (2048 * 4503599627370496) + (p * 4503599627370496 + r)) / (2048 * 4503599627370496) % 2 == 1) = neg := by
    cases neg
    · simp; omega
    · simp; omega
  rw [r1, r2]
  rw [if_neg (by omega), if_pos (by omega)]
  have m1 : 4503599627370496 + (p * 4503599627370496 + r) % 4503599627370496 = r := by omega
  have m2 : (p * 4503599627370496 + r) / 4503599627370496 - 1 = p := by omega
  rw [m1, m2]

theorem reads_nearest (d : Int) (B : Nat) (hd : d.natAbs < 2 ^ 53) (hB : B ≤ 1074) {neg : Bool} (hn : d ≠ 0 → neg = decide (d < 0)) :
    Reads (double.nearest neg (d.natAbs * 2 ^ B) (-(B : Int))) d := by
  by_cases h0 : d = 0
  · subst h0
    refine ⟨neg, 1074, ?_, fun h => absurd rfl h⟩
    unfold Format.nearest
    simp only [Int.natAbs_zero, Nat.zero_mul, if_true]
    cases neg <;> rfl
  · have hp := Nat.two_pow_pos B
    have hm0 : d.natAbs ≠ 0 := by omega
    have hmB : d.natAbs * 2 ^ B ≠ 0 := Nat.mul_ne_zero hm0 (by omega)
    have hlog : (d.natAbs * 2 ^ B).log2 = d.natAbs.log2 + B := by
      rw [Nat.log2_eq_iff hmB, Nat.pow_add, show d.natAbs.log2 + B + 1 = d.natAbs.log2 + 1 + B by omega, Nat.pow_add]
      exact ⟨Nat.mul_le_mul_right _ (Nat.log2_self_le hm0), Nat.mul_lt_mul_of_pos_right Nat.lt_log2_self hp⟩
    have hL : d.natAbs.log2 < 53 := (Nat.log2_lt hm0).2 hd
    have hlo : 2 ^ d.natAbs.log2 ≤ d.natAbs := Nat.log2_self_le hm0
    have hhi : d.natAbs < 2 ^ (d.natAbs.log2 + 1) := Nat.lt_log2_self
    have hl : double.leastPlace = -1074 := rfl
    have hf : double.fractionBits = 52 := rfl
    generalize hLg : d.natAbs.log2 = L at *
    unfold Format.nearest
    rw [if_neg hmB]
    simp only [hlog, hl, hf]
    have hlast : max (-(B : Int) + ((L + B : Nat) : Int) - ((52 : Nat) : Int)) (-1074) = (L : Int) - 52 := by omega
    rw [hlast]
    have e1 : (-(B : Int) - ((L : Int) - 52)).toNat = 52 - L - B := by omega
    have e2 : ((L : Int) - 52 - -(B : Int)).toNat = B - (52 - L) := by omega
    have e3 : ((L : Int) - 52 - -1074).toNat = L + 1022 := by omega
    rw [e1, e2, e3, Nat.shiftLeft_eq, Nat.mul_assoc, ← Nat.pow_add, cut_shift neg _ _ _ hm0 (by omega)]
    have e4 : B + (52 - L - B) - (B - (52 - L)) = 52 - L := by omega
    rw [e4]
    have b1 : 2 ^ 52 ≤ d.natAbs * 2 ^ (52 - L) := by
      have : 2 ^ 52 = 2 ^ L * 2 ^ (52 - L) := by rw [← Nat.pow_add]; congr 1; omega
      rw [this]; exact Nat.mul_le_mul_right _ hlo
    have b2 : d.natAbs * 2 ^ (52 - L) < 2 ^ 53 := by
      have : 2 ^ 53 = 2 ^ (L + 1) * 2 ^ (52 - L) := by rw [← Nat.pow_add]; congr 1; omega
      rw [this]; exact Nat.mul_lt_mul_of_pos_right hhi (Nat.two_pow_pos _)
    refine ⟨neg, 52 - L, ?_, hn⟩
    have hr := read_word neg (L + 1022) _ (by omega) b1 b2
    have hz : (-1074 : Int) + ((L + 1022 : Nat) : Int) = -((52 - L : Nat) : Int) := by omega
    rw [hz] at hr
    exact hr

theorem reads_ofInt (d : Int) (hd : d.natAbs < 2 ^ 53) : Reads (floatOfInt .f64 d) d := by
  have := reads_nearest d 0 hd (by omega) (neg := decide (d < 0)) (fun _ => rfl)
  rw [Nat.pow_zero, Nat.mul_one] at this
  exact this

theorem reads_sub {a b : Nat} {x y : Int} (ha : Reads a x) (hb : Reads b y) (hd : (x - y).natAbs < 2 ^ 53) (hk : ∀ s m p, double.read a = .number s m p → -1074 ≤ p) (hk2 : ∀ s m p, double.read b = .number s m p → -1074 ≤ p) :
    ∃ r, floatBits .sub .f64 a b = some r ∧ Reads r (x - y) := by
  obtain ⟨s, k, e1, h1⟩ := ha
  obtain ⟨t, l, e2, h2⟩ := hb
  have k1 := hk _ _ _ e1
  have k2 := hk2 _ _ _ e2
  show ∃ r, double.sub a b = some r ∧ _
  unfold Format.sub
  rw [e1, e2]
  have h3 : -y ≠ 0 → (!t) = decide (-y < 0) := fun h => by
    have hy : y ≠ 0 := by omega
    rw [h2 hy]
    by_cases hlt : y < 0
    · simp [hlt]; omega
    · simp [hlt]; omega
  have q1 : k + ((-(k : Int)) - min (-(k : Int)) (-(l : Int))).toNat = max k l := by omega
  have q2 : l + ((-(l : Int)) - min (-(k : Int)) (-(l : Int))).toNat = max k l := by omega
  have tot : signed s (x.natAbs * 2 ^ k) ((-(k : Int)) - min (-(k : Int)) (-(l : Int))).toNat + signed (!t) (y.natAbs * 2 ^ l) ((-(l : Int)) - min (-(k : Int)) (-(l : Int))).toNat = (x - y) * ((2 ^ max k l : Nat) : Int) := by
    have hy : y.natAbs = (-y).natAbs := by omega
    rw [hy, signed_at h1, signed_at h3, q1, q2, ← Int.add_mul, Int.sub_eq_add_neg]
  have hbase : min (-(k : Int)) (-(l : Int)) = -((max k l : Nat) : Int) := by omega
  refine ⟨_, rfl, ?_⟩
  show Reads (double.nearest _ _ _) _
  rw [tot, Int.natAbs_mul, Int.natAbs_natCast, hbase]
  refine reads_nearest (x - y) (max k l) hd (by omega) (fun h => ?_)
  have hp : (0 : Int) < ((2 ^ max k l : Nat) : Int) := by have := Nat.two_pow_pos (max k l); omega
  rw [if_neg (by exact Int.mul_ne_zero h (by omega))]
  have : (x - y) * ((2 ^ max k l : Nat) : Int) < 0 ↔ x - y < 0 := by
    constructor
    · intro h'
      apply Decidable.byContradiction
      intro hc
      have := Int.mul_nonneg (show 0 ≤ x - y by omega) (Int.le_of_lt hp)
      omega
    · intro h'; exact Int.mul_neg_of_neg_of_pos h' hp
  exact decide_eq_decide.2 this

theorem read_place (v : Nat) : ∀ s m p, double.read v = .number s m p → -1074 ≤ p := by
  intro s m p h
  unfold Format.read at h
  have hl : double.leastPlace = -1074 := rfl
  simp only [hl] at h
  split at h
  · cases h; omega
  · split at h
    · cases h; omega
    · split at h <;> cases h

theorem sub_reads {a b : Nat} {x y : Int} (ha : Reads a x) (hb : Reads b y) (hd : (x - y).natAbs < 2 ^ 53) : ∃ r, floatBits .sub .f64 a b = some r ∧ Reads r (x - y) :=
  reads_sub ha hb hd (read_place a) (read_place b)

end Go.Proofs.YbulkbtkoGreatFmt

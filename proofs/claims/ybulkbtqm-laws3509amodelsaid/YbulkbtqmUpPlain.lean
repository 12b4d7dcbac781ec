import Derived.Test.YbulkbtqmPlain
namespace Go.Proofs.Ybulkbtqm

def flF (rm : Nat → Bool) (i : Nat) : Nat := if rm i then 0 else 1
def xorN (a b : Nat) : Nat := a ^^^ b
def szOf (T : Nat → TD) (z : Int) : Nat := if z < 0 then 0 else (T z.toNat).i
theorem flF_le (rm : Nat → Bool) (i : Nat) : flF rm i ≤ 1 := by unfold flF; split <;> omega
theorem xorN_lt {a b : Nat} (ha : a < 18446744073709551616) (hb : b < 18446744073709551616) : xorN a b < 18446744073709551616 := Nat.xor_lt_two_pow (n := 64) ha hb

theorem IsTree.sz {T : Nat → TD} {fl fx : Nat → Nat} {f : Nat} {t : Int} {lo len : Nat} (h : IsTree T fl fx f t lo len) : szOf T t = len := by
  by_cases hl : len = 0
  · subst hl; rw [h.nil]; rfl
  · obtain ⟨_, r, _, rfl, _, _, hi, _⟩ := h.node (by omega)
    unfold szOf
    rw [if_neg (by omega), Int.toNat_natCast, hi]

def cI (p : Nat → Bool) (i : Nat) : Nat := if p i then 1 else 0
def cV (p : Nat → Bool) (fl : Nat → Nat) (i : Nat) : Nat := if p i then fl i else 0

/-- What holds at the head of each round of upTo: t is the root of a tree over lo .. lo + len - 1, all of s .. lo - 1 is summed up and at or before the mark, and what lies behind the tree is behind the mark. -/
structure UpInv (T : Nat → TD) (fl fx : Nat → Nat) (p : Nat → Bool) (s e : Nat) (t : Int) (lo len A V X : Nat) : Prop where
  tree : ∃ f, IsTree T fl fx f t lo len
  h1 : s ≤ lo
  h2 : lo + len ≤ e
  hA : A = sumF (cI p) s (lo - s)
  hV : V = sumF (cV p fl) s (lo - s)
  hX : X = xorF (cV p fx) s (lo - s)
  hin : ∀ i, s ≤ i → i < lo → p i = true
  hout : ∀ i, lo + len ≤ i → i < e → p i = false

theorem sumF_all {p : Nat → Bool} {fl : Nat → Nat} {lo n : Nat} (h : ∀ i, lo ≤ i → i < lo + n → p i = true) : sumF (cV p fl) lo n = sumF fl lo n :=
  sumF_congr fun i a b => by unfold cV; rw [h i a b]; rfl
theorem xorF_all {p : Nat → Bool} {fl : Nat → Nat} {lo n : Nat} (h : ∀ i, lo ≤ i → i < lo + n → p i = true) : xorF (cV p fl) lo n = xorF fl lo n :=
  xorF_congr fun i a b => by unfold cV; rw [h i a b]; rfl
theorem cI_all {p : Nat → Bool} {lo : Nat} : ∀ {n : Nat}, (∀ i, lo ≤ i → i < lo + n → p i = true) → sumF (cI p) lo n = n
  | 0, _ => rfl
  | n + 1, h => by
    show sumF (cI p) lo n + cI p (lo + n) = n + 1
    rw [cI_all fun i a b => h i a (by omega)]
    unfold cI; rw [h (lo + n) (by omega) (by omega)]; rfl
theorem sumF_none {p : Nat → Bool} {fl : Nat → Nat} {lo n : Nat} (h : ∀ i, lo ≤ i → i < lo + n → p i = false) : sumF (cV p fl) lo n = 0 := by
  rw [sumF_congr (g := fun _ => 0) fun i a b => by unfold cV; rw [h i a b]; rfl, sumF_zero]
theorem xorF_none {p : Nat → Bool} {fl : Nat → Nat} {lo n : Nat} (h : ∀ i, lo ≤ i → i < lo + n → p i = false) : xorF (cV p fl) lo n = 0 := by
  rw [xorF_congr (g := fun _ => 0) fun i a b => by unfold cV; rw [h i a b]; rfl, xorF_zero]
theorem cI_none {p : Nat → Bool} {lo n : Nat} (h : ∀ i, lo ≤ i → i < lo + n → p i = false) : sumF (cI p) lo n = 0 := by
  rw [sumF_congr (g := fun _ => 0) fun i a b => by unfold cI; rw [h i a b]; rfl, sumF_zero]

section
variable {T : Nat → TD} {fl fx : Nat → Nat} {p : Nat → Bool} {s e lo len A V X : Nat} {t : Int}

theorem UpInv.start (h : ∃ f, IsTree T fl fx f t s len) : UpInv T fl fx p s (s + len) t s len 0 0 0 :=
  ⟨h, Nat.le_refl _, Nat.le_refl _, by simp [sumF], by simp [sumF], by simp [xorF], fun i a b => by omega, fun i a b => by omega⟩

theorem UpInv.stop (h : UpInv T fl fx p s e (-1) lo len A V X) : A = sumF (cI p) s (e - s) ∧ V = sumF (cV p fl) s (e - s) ∧ X = xorF (cV p fx) s (e - s) := by
  obtain ⟨f, ht⟩ := h.tree
  have hl : len = 0 := by rcases ht.root_neg with ⟨a, _⟩ | ⟨_, b⟩ <;> omega
  subst hl
  have h1 := h.h1
  have h2 := h.h2
  have e1 : e - s = (lo - s) + (e - lo) := by omega
  have hout : ∀ i, s + (lo - s) ≤ i → i < s + (lo - s) + (e - lo) → p i = false := fun i a b => h.hout i (by omega) (by omega)
  rw [e1, sumF_add, sumF_add, xorF_add, cI_none hout, sumF_none hout, xorF_none hout]
  exact ⟨by rw [h.hA]; rfl, by rw [h.hV]; rfl, by rw [h.hX]; simp⟩

theorem UpInv.node (h : UpInv T fl fx p s e t lo len A V X) (hne : t ≠ -1) : ∃ r : Nat, t = (r : Int) ∧ lo ≤ r ∧ r < lo + len ∧ (∃ f, IsTree T fl fx f (T r).l lo (r - lo)) ∧ (∃ f, IsTree T fl fx f (T r).r (r + 1) (lo + len - 1 - r)) := by
  obtain ⟨f, ht⟩ := h.tree
  have hl : 0 < len := by rcases ht.root_neg with ⟨_, b⟩ | ⟨a, _⟩ <;> omega
  obtain ⟨f', r, _, h0, h1, h2, _, _, _, h6, h7⟩ := ht.node hl
  exact ⟨r, h0, h1, h2, ⟨f', h6⟩, ⟨f', h7⟩⟩

theorem UpInv.left (h : UpInv T fl fx p s e t lo len A V X) {r : Nat} (h1 : lo ≤ r) (h2 : r < lo + len) (hl : ∃ f, IsTree T fl fx f (T r).l lo (r - lo)) (hm : ∀ i j, i ≤ j → j < e → p j = true → p i = true) (hp : p r = false) :
    UpInv T fl fx p s e (T r).l lo (r - lo) A V X := by
  have := h.h2
  refine ⟨hl, h.h1, by omega, h.hA, h.hV, h.hX, h.hin, fun i a b => ?_⟩
  cases hi : p i
  · rfl
  · have := hm r i (by omega) b hi
    rw [hp] at this; cases this

theorem UpInv.right (h : UpInv T fl fx p s e t lo len A V X) {r : Nat} (h1 : lo ≤ r) (h2 : r < lo + len) (hr : ∃ f, IsTree T fl fx f (T r).r (r + 1) (lo + len - 1 - r)) (hm : ∀ i j, i ≤ j → j < e → p j = true → p i = true) (hp : p r = true) :
    UpInv T fl fx p s e (T r).r (r + 1) (lo + len - 1 - r) (A + (r - lo) + 1) (V + sumF fl lo (r - lo) + fl r) (xorN (xorN X (xorF fx lo (r - lo))) (fx r)) := by
  have g1 := h.h1
  have g2 := h.h2
  have hin : ∀ i, s ≤ i → i < r + 1 → p i = true := fun i a b => hm i r (by omega) (by omega) hp
  have e1 : r + 1 - s = (lo - s) + ((r - lo) + 1) := by omega
  have e2 : s + (lo - s) = lo := by omega
  have e3 : lo + (r - lo) = r := by omega
  have hin2 : ∀ i, lo ≤ i → i < lo + (r - lo) → p i = true := fun i a b => hin i (by omega) (by omega)
  refine ⟨hr, by omega, by omega, ?_, ?_, ?_, hin, fun i a b => h.hout i (by omega) b⟩
  · rw [e1, sumF_add, e2, ← h.hA, sumF_add, e3, cI_all hin2]
    show _ = A + (_ + (0 + cI p (r + 0)))
    unfold cI; simp [hp]; omega
  · rw [e1, sumF_add, e2, ← h.hV, sumF_add, e3, sumF_all hin2]
    show _ = V + (_ + (0 + cV p fl (r + 0)))
    unfold cV; simp [hp]; omega
  · rw [e1, xorF_add, e2, ← h.hX, xorF_add, e3, xorF_all hin2]
    show (X ^^^ _) ^^^ _ = X ^^^ (_ ^^^ (0 ^^^ cV p fx (r + 0)))
    unfold cV; simp [hp, Nat.xor_assoc]

theorem UpInv.bounds (h : UpInv T fl fx p s e t lo len A V X) (hfl : ∀ i, fl i ≤ 1) (hfx : ∀ i, fx i < 18446744073709551616) : A ≤ lo ∧ V ≤ lo ∧ X < 18446744073709551616 := by
  refine ⟨?_, ?_, ?_⟩
  · have := sumF_le (f := cI p) (lo := s) (fun i => by unfold cI; split <;> omega) (lo - s); rw [h.hA]; omega
  · have := sumF_le (f := cV p fl) (lo := s) (fun i => by unfold cV; split; exact hfl i; omega) (lo - s); rw [h.hV]; omega
  · rw [h.hX]; exact xorF_lt (fun i => by unfold cV; split; exact hfx i; omega) _
end
end Go.Proofs.Ybulkbtqm

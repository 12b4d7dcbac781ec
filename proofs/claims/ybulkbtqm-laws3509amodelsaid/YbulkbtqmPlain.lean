namespace Go.Proofs.Ybulkbtqm

/-- What a slot holds of its tree: left, right, and the sums of its subtree. -/
structure TD where
  l : Int
  r : Int
  i : Nat
  v : Nat
  x : Nat

def sumF (f : Nat → Nat) (lo : Nat) : Nat → Nat
  | 0 => 0
  | n + 1 => sumF f lo n + f (lo + n)
def xorF (f : Nat → Nat) (lo : Nat) : Nat → Nat
  | 0 => 0
  | n + 1 => xorF f lo n ^^^ f (lo + n)

theorem sumF_add (f : Nat → Nat) (lo a : Nat) : ∀ b, sumF f lo (a + b) = sumF f lo a + sumF f (lo + a) b
  | 0 => by simp [sumF]
  | b + 1 => by
    show sumF f lo (a + b) + f (lo + (a + b)) = sumF f lo a + (sumF f (lo + a) b + f (lo + a + b))
    rw [sumF_add f lo a b, Nat.add_assoc lo a b]; omega
theorem xorF_add (f : Nat → Nat) (lo a : Nat) : ∀ b, xorF f lo (a + b) = xorF f lo a ^^^ xorF f (lo + a) b
  | 0 => by simp [xorF]
  | b + 1 => by
    show xorF f lo (a + b) ^^^ f (lo + (a + b)) = xorF f lo a ^^^ (xorF f (lo + a) b ^^^ f (lo + a + b))
    rw [xorF_add f lo a b, Nat.add_assoc lo a b, Nat.xor_assoc]
theorem sumF_congr {f g : Nat → Nat} {lo : Nat} : ∀ {n}, (∀ i, lo ≤ i → i < lo + n → f i = g i) → sumF f lo n = sumF g lo n
  | 0, _ => rfl
  | n + 1, h => by
    show sumF f lo n + f (lo + n) = sumF g lo n + g (lo + n)
    rw [sumF_congr fun i a b => h i a (by omega), h (lo + n) (by omega) (by omega)]
theorem xorF_congr {f g : Nat → Nat} {lo : Nat} : ∀ {n}, (∀ i, lo ≤ i → i < lo + n → f i = g i) → xorF f lo n = xorF g lo n
  | 0, _ => rfl
  | n + 1, h => by
    show xorF f lo n ^^^ f (lo + n) = xorF g lo n ^^^ g (lo + n)
    rw [xorF_congr fun i a b => h i a (by omega), h (lo + n) (by omega) (by omega)]
theorem sumF_zero (lo : Nat) : ∀ n, sumF (fun _ => 0) lo n = 0
  | 0 => rfl
  | n + 1 => by show sumF _ lo n + 0 = 0; rw [sumF_zero lo n]
theorem xorF_zero (lo : Nat) : ∀ n, xorF (fun _ => 0) lo n = 0
  | 0 => rfl
  | n + 1 => by show xorF _ lo n ^^^ 0 = 0; rw [xorF_zero lo n]; rfl
theorem sumF_le {f : Nat → Nat} {lo : Nat} (h : ∀ i, f i ≤ 1) : ∀ n, sumF f lo n ≤ n
  | 0 => Nat.le_refl _
  | n + 1 => by have := sumF_le (lo := lo) h n; have := h (lo + n); show sumF f lo n + f (lo + n) ≤ n + 1; omega
theorem xorF_lt {f : Nat → Nat} {lo : Nat} (h : ∀ i, f i < 18446744073709551616) : ∀ n, xorF f lo n < 18446744073709551616
  | 0 => by show 0 < _; omega
  | n + 1 => by
    show xorF f lo n ^^^ f (lo + n) < 2 ^ 64
    exact Nat.xor_lt_two_pow (xorF_lt h n) (h _)

/-- One item more in front, and the rest behind it: a node's own, its left and its right. -/
theorem sumF_node (f : Nat → Nat) (lo len r : Nat) (h1 : lo ≤ r) (h2 : r ≤ lo + len) : sumF f lo (len + 1) = sumF f lo (r - lo) + f r + sumF f (r + 1) (lo + len - r) := by
  have e : len + 1 = (r - lo) + (1 + (lo + len - r)) := by omega
  rw [e, sumF_add, sumF_add f (lo + (r - lo)) 1]
  have e2 : lo + (r - lo) = r := by omega
  rw [e2]
  show _ + (0 + f (r + 0) + _) = _
  simp; omega
theorem xorF_node (f : Nat → Nat) (lo len r : Nat) (h1 : lo ≤ r) (h2 : r ≤ lo + len) : xorF f lo (len + 1) = (xorF f lo (r - lo) ^^^ f r) ^^^ xorF f (r + 1) (lo + len - r) := by
  have e : len + 1 = (r - lo) + (1 + (lo + len - r)) := by omega
  rw [e, xorF_add, xorF_add f (lo + (r - lo)) 1]
  have e2 : lo + (r - lo) = r := by omega
  rw [e2]
  show _ ^^^ ((0 ^^^ f (r + 0)) ^^^ _) = _
  rw [Nat.zero_xor, Nat.xor_assoc]; rfl

/-- t is the root of a tree over the slots lo .. lo + len - 1, each node's sums those of its subtree. -/
def IsTree (T : Nat → TD) (fl fx : Nat → Nat) : Nat → Int → Nat → Nat → Prop
  | _, t, _, 0 => t = -1
  | 0, _, _, _ + 1 => False
  | f + 1, t, lo, len + 1 => ∃ r : Nat, t = (r : Int) ∧ lo ≤ r ∧ r ≤ lo + len ∧ (T r).i = len + 1 ∧ (T r).v = sumF fl lo (len + 1) ∧ (T r).x = xorF fx lo (len + 1) ∧
      IsTree T fl fx f (T r).l lo (r - lo) ∧ IsTree T fl fx f (T r).r (r + 1) (lo + len - r)

theorem IsTree.congr {T T' : Nat → TD} {fl fx : Nat → Nat} : ∀ {f : Nat} {t : Int} {lo len : Nat}, (∀ i, lo ≤ i → i < lo + len → T' i = T i) → IsTree T fl fx f t lo len → IsTree T' fl fx f t lo len
  | f, t, lo, 0, _, h => by unfold IsTree at h ⊢; exact h
  | 0, t, lo, len + 1, _, h => by unfold IsTree at h; exact h.elim
  | f + 1, t, lo, len + 1, e, h => by
    unfold IsTree at h ⊢
    obtain ⟨r, h0, h1, h2, h3, h4, h5, h6, h7⟩ := h
    have er := e r h1 (by omega)
    refine ⟨r, h0, h1, h2, by rw [er]; exact h3, by rw [er]; exact h4, by rw [er]; exact h5, ?_, ?_⟩
    · rw [er]; exact IsTree.congr (fun i a b => e i a (by omega)) h6
    · rw [er]; exact IsTree.congr (fun i a b => e i (by omega) (by omega)) h7

theorem IsTree.up {T : Nat → TD} {fl fx : Nat → Nat} : ∀ {f f' : Nat} {t : Int} {lo len : Nat}, f ≤ f' → IsTree T fl fx f t lo len → IsTree T fl fx f' t lo len
  | f, f', t, lo, 0, _, h => by cases f <;> cases f' <;> (unfold IsTree at h ⊢; exact h)
  | 0, f', t, lo, len + 1, _, h => by unfold IsTree at h; exact h.elim
  | f + 1, 0, t, lo, len + 1, hf, _ => by omega
  | f + 1, f' + 1, t, lo, len + 1, hf, h => by
    unfold IsTree at h ⊢
    obtain ⟨r, h0, h1, h2, h3, h4, h5, h6, h7⟩ := h
    exact ⟨r, h0, h1, h2, h3, h4, h5, IsTree.up (by omega) h6, IsTree.up (by omega) h7⟩

theorem IsTree.nil {T : Nat → TD} {fl fx : Nat → Nat} {f : Nat} {t : Int} {lo : Nat} (h : IsTree T fl fx f t lo 0) : t = -1 := by
  cases f <;> (unfold IsTree at h; exact h)
theorem IsTree.mk0 {T : Nat → TD} {fl fx : Nat → Nat} {f lo : Nat} : IsTree T fl fx f (-1) lo 0 := by
  cases f <;> (unfold IsTree; rfl)
theorem IsTree.node {T : Nat → TD} {fl fx : Nat → Nat} {f : Nat} {t : Int} {lo len : Nat} (h : IsTree T fl fx f t lo len) (hl : 0 < len) :
    ∃ f' r, f = f' + 1 ∧ t = ((r : Nat) : Int) ∧ lo ≤ r ∧ r < lo + len ∧ (T r).i = len ∧ (T r).v = sumF fl lo len ∧ (T r).x = xorF fx lo len ∧
      IsTree T fl fx f' (T r).l lo (r - lo) ∧ IsTree T fl fx f' (T r).r (r + 1) (lo + len - 1 - r) := by
  match f, len, h, hl with
  | 0, len + 1, h, _ => unfold IsTree at h; exact h.elim
  | f + 1, len + 1, h, _ =>
    unfold IsTree at h
    obtain ⟨r, h0, h1, h2, h3, h4, h5, h6, h7⟩ := h
    exact ⟨f, r, rfl, h0, h1, by omega, h3, h4, h5, h6, by
      have e : lo + (len + 1) - 1 - r = lo + len - r := by omega
      rw [e]; exact h7⟩
theorem IsTree.mk {T : Nat → TD} {fl fx : Nat → Nat} {f lo len r : Nat} (h1 : lo ≤ r) (h2 : r < lo + len) (h3 : (T r).i = len) (h4 : (T r).v = sumF fl lo len) (h5 : (T r).x = xorF fx lo len)
    (h6 : IsTree T fl fx f (T r).l lo (r - lo)) (h7 : IsTree T fl fx f (T r).r (r + 1) (lo + len - 1 - r)) : IsTree T fl fx (f + 1) (r : Int) lo len := by
  match len, h2, h3, h4, h5, h7 with
  | 0, h2, _, _, _, _ => omega
  | len + 1, h2, h3, h4, h5, h7 =>
    unfold IsTree
    refine ⟨r, rfl, h1, by omega, h3, h4, h5, h6, ?_⟩
    have e : lo + len - r = lo + (len + 1) - 1 - r := by omega
    rw [e]; exact h7
/-- Whether a tree is empty shows at its root. -/
theorem IsTree.root_neg {T : Nat → TD} {fl fx : Nat → Nat} {f : Nat} {t : Int} {lo len : Nat} (h : IsTree T fl fx f t lo len) : (len = 0 ∧ t = -1) ∨ (0 < len ∧ 0 ≤ t) := by
  by_cases hl : len = 0
  · subst hl; exact .inl ⟨rfl, h.nil⟩
  · obtain ⟨_, r, _, rfl, _⟩ := h.node (by omega)
    exact .inr ⟨by omega, by omega⟩

/-- The id's last byte behind i items. -/
def gOf (st : Nat → Nat) : Nat → Nat
  | 0 => 0
  | i + 1 => min 255 (gOf st i + st i % 3)
theorem gOf_le (st : Nat → Nat) : ∀ i, gOf st i ≤ 255
  | 0 => by show 0 ≤ 255; omega
  | i + 1 => by show min 255 _ ≤ 255; omega
theorem gOf_mono (st : Nat → Nat) (i : Nat) : ∀ d, gOf st i ≤ gOf st (i + d)
  | 0 => Nat.le_refl _
  | d + 1 => by
    have := gOf_mono st i d
    have h := gOf_le st (i + d)
    show _ ≤ min 255 (gOf st (i + d) + st (i + d) % 3)
    omega

end Go.Proofs.Ybulkbtqm

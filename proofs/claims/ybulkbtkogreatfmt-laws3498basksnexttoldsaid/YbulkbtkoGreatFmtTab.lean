import Derived.Test.YbulkbtkoGreatFmtLearn
namespace Go.Proofs.YbulkbtkoGreatFmt
set_option linter.unusedVariables false
set_option linter.unusedSimpArgs false

/-- At the level that two ids share up to, their digits differ. -/
theorem dig_differs {a b : Nat} (ha : a < 18446744073709551616) (hb : b < 18446744073709551616) (hne : a ≠ b) : dig a (shD a b) ≠ dig b (shD a b) := by
  have key : ∀ k, k ≤ 16 → (∀ i, i < k → dig a i = dig b i) ∨ ∃ m, m < k ∧ (∀ i, i < m → dig a i = dig b i) ∧ dig a m ≠ dig b m := by
    intro k
    induction k with
    | zero => exact fun _ => .inl fun i hi => by omega
    | succ k ih =>
      intro hk
      rcases ih (by omega) with h | ⟨m, hm, h1, h2⟩
      · by_cases c : dig a k = dig b k
        · refine .inl fun i hi => ?_
          by_cases e : i = k
          · subst e; exact c
          · exact h i (by omega)
        · exact .inr ⟨k, by omega, h, c⟩
      · exact .inr ⟨m, by omega, h1, h2⟩
  rcases key 16 (Nat.le_refl _) with h | ⟨m, hm, h1, h2⟩
  · have := shD_of ha hb (Nat.le_refl 16) h (.inl rfl)
    have := shD_lt ha hb hne
    omega
  · rw [shD_of ha hb (by omega) h1 (.inr h2)]
    exact h2

/-- The table ahead of any learning: the node itself at its own digits. -/
def tab0 (id : Nat → Nat) (s : Nat) : Nat → Int := fun p => if p % 16 = dig (id s) (p / 16) then (s : Int) else -1

theorem tab0_slot {id : Nat → Nat} {s j : Nat} (hs : id s < 18446744073709551616) (hj : id j < 18446744073709551616) (hne : id s ≠ id j) : tab0 id s (slotOf id s j) = -1 := by
  have hd := dig_differs hs hj hne
  have hl := dig_lt (id j) (shD (id s) (id j))
  unfold tab0 slotOf
  rw [if_neg]
  rw [show (shD (id s) (id j) * 16 + dig (id j) (shD (id s) (id j))) / 16 = shD (id s) (id j) by omega, show (shD (id s) (id j) * 16 + dig (id j) (shD (id s) (id j))) % 16 = dig (id j) (shD (id s) (id j)) by omega]
  exact fun e => hd e.symm

theorem slot_lt {id : Nat → Nat} {s j : Nat} (hs : id s < 18446744073709551616) (hj : id j < 18446744073709551616) (hne : id s ≠ id j) : slotOf id s j < 256 := by
  have := shD_lt hs hj hne
  have := dig_lt (id j) (shD (id s) (id j))
  unfold slotOf
  omega

section
variable {cI : Nat → Int} {id : Nat → Nat} {s N : Nat}

/-- What the table holds once the nodes of l are learnt. -/
structure Spec (cI : Nat → Int) (id : Nat → Nat) (s : Nat) (l : List Nat) (T : Nat → Int) : Prop where
  no : ∀ p, (∀ j ∈ l, j ≠ s → slotOf id s j ≠ p) → T p = tab0 id s p
  yes : ∀ j ∈ l, j ≠ s → ∃ m ∈ l, m ≠ s ∧ slotOf id s m = slotOf id s j ∧ T (slotOf id s j) = (m : Int) ∧ ∀ k ∈ l, k ≠ s → slotOf id s k = slotOf id s j → k = m ∨ bef cI id m k = true

theorem bef_asymm {a b : Nat} (h : bef cI id a b = true) (k : bef cI id b a = true) : False := by
  simp only [bef, decide_eq_true_eq] at h k
  omega
theorem bef_trans {a b c : Nat} (h : bef cI id a b = true) (k : bef cI id b c = true) : bef cI id a c = true := by
  simp only [bef, decide_eq_true_eq] at h k ⊢
  omega
theorem bef_total {a b : Nat} (h : id a ≠ id b) (k : bef cI id a b = false) : bef cI id b a = true := by
  simp only [bef, decide_eq_true_eq, decide_eq_false_iff_not] at k ⊢
  omega

theorem Spec.unique {l l' : List Nat} {T T' : Nat → Int} (h : Spec cI id s l T) (h' : Spec cI id s l' T') (hm : ∀ j, j ∈ l ↔ j ∈ l') (p : Nat) : T p = T' p := by
  by_cases c : ∃ j ∈ l, j ≠ s ∧ slotOf id s j = p
  · obtain ⟨j, hj, hjs, rfl⟩ := c
    obtain ⟨m, hml, hms, hmp, hT, hmin⟩ := h.yes j hj hjs
    obtain ⟨m', hml', hms', hmp', hT', hmin'⟩ := h'.yes j ((hm j).1 hj) hjs
    have e : m = m' := by
      rcases hmin m' ((hm m').2 hml') hms' hmp' with e | e
      · exact e.symm
      · rcases hmin' m ((hm m).1 hml) hms hmp with e' | e'
        · exact e'
        · exact (bef_asymm e e').elim
    rw [hT, hT', e]
  · rw [h.no p fun j hj hjs e => c ⟨j, hj, hjs, e⟩, h'.no p fun j hj hjs e => c ⟨j, (hm j).2 hj, hjs, e⟩]

theorem Spec.start : Spec cI id s [] (tab0 id s) := ⟨fun _ _ => rfl, fun j hj => by cases hj⟩

theorem Spec.step {l : List Nat} {T : Nat → Int} (h : Spec cI id s l T) (hid : ∀ i, id i < 18446744073709551616) (hinj : ∀ i j, i < N → j < N → id i = id j → i = j) (hl : ∀ j ∈ l, j < N) (hs : s < N) (j : Nat) (hj : j < N) :
    Spec cI id s (l ++ [j]) (learnT cI id s T j) := by
  by_cases hjs : j = s
  · have ht : takes cI id s T j = false := by simp [takes, hjs]
    have e : learnT cI id s T j = T := by simp [learnT, ht]
    rw [e]
    refine ⟨fun p hp => h.no p fun k hk => hp k (by simp [hk]), fun k hk hks => ?_⟩
    have hk' : k ∈ l := by
      rcases List.mem_append.1 hk with c | c
      · exact c
      · simp at c; omega
    obtain ⟨m, hml, hms, hmp, hT, hmin⟩ := h.yes k hk' hks
    refine ⟨m, by simp [hml], hms, hmp, hT, fun q hq hqs hqp => ?_⟩
    rcases List.mem_append.1 hq with c | c
    · exact hmin q c hqs hqp
    · simp at c; omega
  · have hnej : id s ≠ id j := fun e => hjs (hinj _ _ hj hs e.symm)
    have h0 := tab0_slot (hid s) (hid j) hnej
    by_cases hc : ∃ k ∈ l, k ≠ s ∧ slotOf id s k = slotOf id s j
    · obtain ⟨k0, hk0, hk0s, hk0p⟩ := hc
      obtain ⟨m, hml, hms, hmp, hT, hmin⟩ := h.yes k0 hk0 hk0s
      rw [hk0p] at hmp hT hmin
      have htk : takes cI id s T j = bef cI id j m := by
        have hm1 : ¬ ((m : Int) = -1) := by omega
        unfold takes
        rw [hT, Int.toNat_natCast]
        simp [hjs, hm1]
      cases hb : bef cI id j m
      · have e : learnT cI id s T j = T := by simp [learnT, htk, hb]
        rw [e]
        refine ⟨fun p hp => h.no p fun k hk => hp k (by simp [hk]), fun k hk hks => ?_⟩
        have hmj : j = m ∨ bef cI id m j = true := by
          by_cases c : j = m
          · exact .inl c
          · exact .inr (bef_total (fun e => c (hinj _ _ hj (hl m hml) e)) hb)
        by_cases hkp : slotOf id s k = slotOf id s j
        · rw [hkp]
          refine ⟨m, by simp [hml], hms, hmp, hT, fun q hq hqs hqp => ?_⟩
          rcases List.mem_append.1 hq with c | c
          · exact hmin q c hqs hqp
          · simp at c; subst c; exact hmj
        · have hk' : k ∈ l := by
            rcases List.mem_append.1 hk with c | c
            · exact c
            · simp at c; subst c; exact absurd rfl hkp
          obtain ⟨m2, hml2, hms2, hmp2, hT2, hmin2⟩ := h.yes k hk' hks
          refine ⟨m2, by simp [hml2], hms2, hmp2, hT2, fun q hq hqs hqp => ?_⟩
          rcases List.mem_append.1 hq with c | c
          · exact hmin2 q c hqs hqp
          · simp at c; subst c; exact absurd hqp.symm hkp
      · have e : learnT cI id s T j = putI T (slotOf id s j) (j : Int) := by simp [learnT, htk, hb]
        rw [e]
        refine ⟨fun p hp => ?_, fun k hk hks => ?_⟩
        · have hpj : p ≠ slotOf id s j := fun e => hp j (by simp) hjs e.symm
          simp only [putI]
          rw [if_neg hpj]
          exact h.no p fun k hk => hp k (by simp [hk])
        · by_cases hkp : slotOf id s k = slotOf id s j
          · rw [hkp]
            refine ⟨j, by simp, hjs, rfl, by simp [putI], fun q hq hqs hqp => ?_⟩
            rcases List.mem_append.1 hq with c | c
            · rcases hmin q c hqs hqp with e | e
              · subst e; exact .inr hb
              · exact .inr (bef_trans hb e)
            · simp at c; exact .inl c
          · have hk' : k ∈ l := by
              rcases List.mem_append.1 hk with c | c
              · exact c
              · simp at c; subst c; exact absurd rfl hkp
            obtain ⟨m2, hml2, hms2, hmp2, hT2, hmin2⟩ := h.yes k hk' hks
            refine ⟨m2, by simp [hml2], hms2, hmp2, by simp only [putI]; rw [if_neg hkp]; exact hT2, fun q hq hqs hqp => ?_⟩
            rcases List.mem_append.1 hq with c | c
            · exact hmin2 q c hqs hqp
            · simp at c; subst c; exact absurd hqp.symm hkp
    · have hT : T (slotOf id s j) = -1 := by
        rw [h.no _ fun k hk hks e => hc ⟨k, hk, hks, e⟩, h0]
      have htk : takes cI id s T j = true := by simp [takes, hjs, hT]
      have e : learnT cI id s T j = putI T (slotOf id s j) (j : Int) := by simp [learnT, htk]
      rw [e]
      refine ⟨fun p hp => ?_, fun k hk hks => ?_⟩
      · have hpj : p ≠ slotOf id s j := fun e => hp j (by simp) hjs e.symm
        simp only [putI]
        rw [if_neg hpj]
        exact h.no p fun k hk => hp k (by simp [hk])
      · by_cases hkp : slotOf id s k = slotOf id s j
        · rw [hkp]
          refine ⟨j, by simp, hjs, rfl, by simp [putI], fun q hq hqs hqp => ?_⟩
          rcases List.mem_append.1 hq with c | c
          · exact absurd ⟨q, c, hqs, hqp⟩ hc
          · simp at c; exact .inl c
        · have hk' : k ∈ l := by
            rcases List.mem_append.1 hk with c | c
            · exact c
            · simp at c; subst c; exact absurd rfl hkp
          obtain ⟨m2, hml2, hms2, hmp2, hT2, hmin2⟩ := h.yes k hk' hks
          refine ⟨m2, by simp [hml2], hms2, hmp2, by simp only [putI]; rw [if_neg hkp]; exact hT2, fun q hq hqs hqp => ?_⟩
          rcases List.mem_append.1 hq with c | c
          · exact hmin2 q c hqs hqp
          · simp at c; subst c; exact absurd hqp.symm hkp

end

theorem TabOk.step {N s : Nat} {cI : Nat → Int} {id cw : Nat → Nat} {T : Nat → Int} {C : Nat → Nat} (h : TabOk N s id cw T C) (j : Nat) (hj : j < N) : TabOk N s id cw (learnT cI id s T j) (learnC cI id cw s T C j) := by
  intro k hk hks
  unfold learnT learnC
  split
  · simp only [putI]
    by_cases c : slotOf id s k = slotOf id s j
    · rw [if_pos c, if_pos c]; exact .inr ⟨j, hj, rfl, rfl⟩
    · rw [if_neg c, if_neg c]; exact h k hk hks
  · exact h k hk hks
theorem TabOk.start {N s : Nat} {id cw : Nat → Nat} (hid : ∀ i, id i < 18446744073709551616) (hinj : ∀ i j, i < N → j < N → id i = id j → i = j) (hs : s < N) (C : Nat → Nat) : TabOk N s id cw (tab0 id s) C := by
  intro k hk hks
  exact .inl (tab0_slot (hid s) (hid k) fun e => hks (hinj _ _ hk hs e.symm))

end Go.Proofs.YbulkbtkoGreatFmt

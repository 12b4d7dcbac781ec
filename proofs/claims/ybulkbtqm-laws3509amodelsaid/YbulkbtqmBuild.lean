import Derived.Test.YbulkbtqmTwo
namespace Go.Proofs.Ybulkbtqm
open Go.RowKit
set_option linter.unusedVariables false
set_option linter.unusedSimpArgs false

/-- The picks, as read: none, or a row of bytes below B. -/
def PRow (w : World) (B : Nat) (ap : Option Addr) (np : Nat) (ps : Nat → Nat) : Prop :=
  np = 0 ∨ ∃ b o, ap = some ⟨b, o, none⟩ ∧ b < B ∧ ∀ i, i < np → w.cell? ⟨b, o + i, none⟩ = some (.int .u8 ((ps i : Nat) : Int))

/-- What the build of a stretch leaves. -/
structure Built (w w' : World) (SB kb n lo len k : Nat) (g sh : Nat → Nat) (rm : Nat → Bool) (T T' : Nat → TD) (t : Int) : Prop where
  row : w'.rowIs SB 40 (n * 36) (slotF g sh rm T')
  cnt : w'.rowIs kb 3 1 (fun _ => .int .i64 ((k + len : Nat) : Int))
  tree : ∃ f, IsTree T' (flF rm) sh f t lo len
  out : ∀ i, i < lo ∨ lo + len ≤ i → T' i = T i
  two : Two w w' SB kb

def BuildSaid (st SB kb n B cp np : Nat) (ap : Option Addr) (ps : Nat → Nat) (g sh : Nat → Nat) (rm : Nat → Bool) (len : Nat) : Prop :=
  ∀ (lo k : Nat) (T : Nat → TD) (w : World) (li hi : Int), li = (lo : Int) → hi = (lo : Int) + len - 1 → lo + len ≤ n → k + len ≤ 100000 → w.cell? ⟨st, 1, none⟩ = some (.slice (some ⟨SB, 0, none⟩) n n) → w.rowIs SB 40 (n * 36) (slotF g sh rm T) →
    w.rowIs kb 3 1 (fun _ => .int .i64 ((k : Nat) : Int)) → PRow w B ap np ps →
    Calls Yba.prog 5 #[.pointer (some ⟨st, 0, none⟩), .int .i64 li, .int .i64 hi, .slice ap np cp, .pointer (some ⟨kb, 0, none⟩)] w fun e w' => ∃ (t : Int) (T' : Nat → TD), e = .returned (.int .i32 t) ∧ Built w w' SB kb n lo len k g sh rm T T' t

theorem PRow.two {w w' : World} {B SB kb np : Nat} {ap : Option Addr} {ps : Nat → Nat} (h : PRow w B ap np ps) (ht : Two w w' SB kb) (h1 : B ≤ SB) (h2 : B ≤ kb) : PRow w' B ap np ps := by
  rcases h with h | ⟨b, o, rfl, hb, hc⟩
  · exact .inl h
  · exact .inr ⟨b, o, rfl, hb, fun i hi => (ht.cell (by show b ≠ SB; omega) (by show b ≠ kb; omega)).trans (hc i hi)⟩

theorem int_mod_bd (a : Int) (m : Int) (h : 0 < m) : 0 ≤ a % m ∧ a % m < m := ⟨Int.emod_nonneg _ (by omega), Int.emod_lt_of_pos _ h⟩

theorem bits_xorN (a b : Nat) (ha : a < 18446744073709551616) (hb : b < 18446744073709551616) : bits .xor .u64 (a : Int) (b : Int) = ((xorN a b : Nat) : Int) := bits_xor_u64_nat a b ha hb

/-- The tree of a stretch out of its root and its two parts. -/
theorem tree_join {T1 T2 T3 : Nat → TD} {fl fx : Nat → Nat} {lo len R : Nat} {t1 t2 : Int} (h1 : lo ≤ R) (h2 : R < lo + len) (hl : ∃ f, IsTree T1 fl fx f t1 lo (R - lo)) (hr : ∃ f, IsTree T2 fl fx f t2 (R + 1) (lo + len - 1 - R))
    (o2 : ∀ i, i < R + 1 ∨ R + 1 + (lo + len - 1 - R) ≤ i → T2 i = T1 i) (o3 : ∀ i, i ≠ R → T3 i = T2 i) (e1 : (T3 R).l = t1) (e2 : (T3 R).r = t2) (A V X : Nat) (hA : A = len) (hV : V = sumF fl lo len) (hX : X = xorF fx lo len) :
    ∃ f, IsTree (upd T3 R { T3 R with i := A, v := V, x := X }) fl fx f (R : Int) lo len := by
  obtain ⟨f1, hl⟩ := hl
  obtain ⟨f2, hr⟩ := hr
  refine ⟨max f1 f2 + 1, IsTree.mk h1 h2 (by rw [upd_same]; exact hA) (by rw [upd_same]; exact hV) (by rw [upd_same]; exact hX) ?_ ?_⟩
  · rw [upd_same]
    show IsTree _ fl fx _ (T3 R).l lo (R - lo)
    rw [e1]
    refine IsTree.up (Nat.le_max_left _ _) (hl.congr fun i a b => ?_)
    rw [upd_other _ _ _ (by omega), o3 i (by omega), o2 i (by omega)]
  · rw [upd_same]
    show IsTree _ fl fx _ (T3 R).r (R + 1) (lo + len - 1 - R)
    rw [e2]
    refine IsTree.up (Nat.le_max_right _ _) (hr.congr fun i a b => ?_)
    rw [upd_other _ _ _ (by omega), o3 i (by omega)]

theorem xorx (a b c : Nat) : (a ^^^ b) ^^^ c = (b ^^^ a) ^^^ c := by rw [Nat.xor_comm a b]

theorem rowIs_sumsI {w : World} {SB n : Nat} {g sh : Nat → Nat} {rm : Nat → Bool} {T : Nat → TD} (h : w.rowIs SB 40 (n * 36) (slotF g sh rm T)) (r a b x : Nat) (A V : Int) (hA : (a : Int) = A) (hV : (b : Int) = V) :
    (((w.setCell ⟨SB, r * 36 + 30, none⟩ (.int .i64 A)).setCell ⟨SB, r * 36 + 31, none⟩ (.int .i64 V)).setCell ⟨SB, r * 36 + 32, none⟩ (.int .u64 x)).rowIs SB 40 (n * 36) (slotF g sh rm (upd T r { T r with i := a, v := b, x := x })) := by
  subst hA hV
  exact rowIs_sums h r a b x

set_option maxHeartbeats 4000000 in
set_option maxRecDepth 100000 in
theorem build_all {st SB kb n B cp np : Nat} {ap : Option Addr} {ps : Nat → Nat} {g sh : Nat → Nat} {rm : Nat → Bool} (hn : n ≤ 600) (hps : ∀ i, ps i ≤ 255) (hpl : np ≤ maxLen) (hsh : ∀ i, sh i < 18446744073709551616) (b1 : B ≤ SB) (b2 : B ≤ kb) (b3 : SB ≠ kb) (b4 : st ≠ SB) (b5 : st ≠ kb) :
    ∀ len, BuildSaid st SB kb n B cp np ap ps g sh rm len := by
  unfold maxLen at hpl
  intro len
  induction len using Nat.strongRecOn with
  | ind len ih =>
    have IH := hide ih
    clear ih
    intro lo k T w li hi hli hhi hln hk c1 hrow hcnt hP
    subst hli
    have q0 := hcnt.cell (i := 0) (by omega)
    have z0 := hcnt.frozen 0
    have Hhi := hide hhi
    by_cases hl0 : len = 0
    · have hcmp : hi < (lo : Int) := by omega
      have hhb : -1 ≤ hi := by omega
      clear hhi
      go_enter Yba.func5, Yba.ntmps5
      go_wp2
      go_ret
      refine ⟨-1, T, rfl, hrow, ?_, ?_, fun i _ => rfl, Two.refl _ _ _⟩
      · subst hl0; exact hcnt
      · subst hl0; exact ⟨0, IsTree.mk0⟩
    · have hcmp : (lo : Int) ≤ hi := by omega
      have hhb : hi ≤ 600 := by omega
      have hw2 := hide ((Two.refl w SB kb).setB 0 (.int .i64 ((k : Int) + 1)))
      have hrow2 := hide (hrow.setOther (a := ⟨kb, 0, none⟩) b3 (.int .i64 ((k : Int) + 1)))
      have hcnt2 : Hid ((w.setCell ⟨kb, 0, none⟩ (.int .i64 ((k : Int) + 1))).rowIs kb 3 1 (fun _ => .int .i64 ((k + 1 : Nat) : Int))) := (hcnt.set 0 (.int .i64 ((k : Int) + 1))).congr fun i hi => by
        have : i = 0 := by omega
        subst this; rfl
      have c12 := hide (((unhide hw2).cell (p := ⟨st, 1, none⟩) b4 b5).trans c1)
      have hP2 := hide (hP.two (unhide hw2) b1 b2)
      have Hcnt := hide hcnt
      have Hrow := hide hrow
      clear hhi hcnt hrow
      by_cases hp0 : np = 0
      · subst hp0
        have hr1 : lo ≤ lo := Nat.le_refl _
        have hr2 : lo < lo + len := by omega
        go_enter Yba.func5, Yba.ntmps5
        go_wp2_with fail
        refine (unhide IH (lo - lo) (by omega) lo (k + 1) T _ (lo : Int) ((lo : Int) - 1) rfl (by omega) (by omega) (by omega) (unhide c12) (unhide hrow2) (unhide hcnt2) (unhide hP2)).mono ?_
        rintro e w1 ⟨t1, T1, rfl, hb1⟩
        have H1 := hide hb1
        clear hb1
        have htw1 := hide ((unhide hw2).trans (unhide H1).two)
        go_wp2_with fail
        refine (unhide IH (lo + len - 1 - lo) (by omega) (lo + 1) (k + 1 + (lo - lo)) T1 _ ((lo : Int) + 1) hi (by omega) (by have := unhide Hhi; omega) (by omega) (by omega) (((unhide H1).two.cell (p := ⟨st, 1, none⟩) b4 b5).trans (unhide c12)) (unhide H1).row (unhide H1).cnt ((unhide hP2).two (unhide H1).two b1 b2)).mono ?_
        rintro e w2 ⟨t2, T2, rfl, hb2⟩
        have H2 := hide hb2
        clear hb2
        have htw2 := hide ((unhide htw1).trans (unhide H2).two)
        have c1b := ((unhide htw2).cell (p := ⟨st, 1, none⟩) b4 b5).trans c1
        have hRn : lo < n := by omega
        have d28 := rowCell (unhide H2).row hRn 28 (by omega)
        have d29 := rowCell (unhide H2).row hRn 29 (by omega)
        have y28 := (unhide H2).row.frozen (lo * 36 + 28)
        have y29 := (unhide H2).row.frozen (lo * 36 + 29)
        have i0 : (0 : Int) ≤ (lo : Int) := by omega
        have i1 : (lo : Int) < (n : Int) := by omega
        clear c1
        go_wp2_with fail
        have hrow3 := rowIs_r (rowIs_l (unhide H2).row lo t1) lo t2
        have htwo3 := ((unhide htw2).setA (lo * 36 + 28) (.int .i32 t1)).setA (lo * 36 + 29) (.int .i32 t2)
        have hkb3 : ((w2.setCell ⟨SB, lo * 36 + 28, none⟩ (.int .i32 t1)).setCell ⟨SB, lo * 36 + 29, none⟩ (.int .i32 t2)).heap[kb]? = w2.heap[kb]? := (Below.heap_setCell _ _ _ _ (Ne.symm b3)).trans (Below.heap_setCell _ _ _ _ (Ne.symm b3))
        have c1c := (htwo3.cell (p := ⟨st, 1, none⟩) b4 b5)
        have o3 : ∀ i, i ≠ lo → upd (upd T2 lo { T2 lo with l := t1 }) lo { upd T2 lo { T2 lo with l := t1 } lo with r := t2 } i = T2 i := fun i h => by rw [upd_other _ _ _ h, upd_other _ _ _ h]
        have e1 : (upd (upd T2 lo { T2 lo with l := t1 }) lo { upd T2 lo { T2 lo with l := t1 } lo with r := t2 } lo).l = t1 := by simp only [upd_same]
        have e2 : (upd (upd T2 lo { T2 lo with l := t1 }) lo { upd T2 lo { T2 lo with l := t1 } lo with r := t2 } lo).r = t2 := by simp only [upd_same]
        generalize upd (upd T2 lo { T2 lo with l := t1 }) lo { upd T2 lo { T2 lo with l := t1 } lo with r := t2 } = T3 at hrow3 o3 e1 e2
        generalize (w2.setCell ⟨SB, lo * 36 + 28, none⟩ (.int .i32 t1)).setCell ⟨SB, lo * 36 + 29, none⟩ (.int .i32 t2) = w3 at hrow3 htwo3 hkb3 c1c ⊢
        have c1d := c1c.trans (((unhide htw2).cell (p := ⟨st, 1, none⟩) b4 b5).symm.trans c1b)
        have hkb3' := hide hkb3
        clear hkb3
        have hkb3 := hkb3'
        clear hkb3'
        have hrow3' := hide hrow3
        clear hrow3
        have hrow3 := hrow3'
        have htwo3' := hide htwo3
        clear htwo3
        have htwo3 := htwo3'
        have o3' := hide o3
        clear o3
        have o3 := o3'
        have e1' := hide e1
        clear e1
        have e1 := e1'
        have e2' := hide e2
        clear e2
        have e2 := e2'
        clear c1c c1b d28 d29 y28 y29
        have q25 := rowCell (unhide hrow3) hRn 25 (by omega)
        have q26 := rowCell (unhide hrow3) hRn 26 (by omega)
        have q30 := rowCell (unhide hrow3) hRn 30 (by omega)
        have q31 := rowCell (unhide hrow3) hRn 31 (by omega)
        have q32 := rowCell (unhide hrow3) hRn 32 (by omega)
        simp only [slotCell] at q25 q26 q30 q31 q32
        have y30 := (unhide hrow3).frozen (lo * 36 + 30)
        have y31 := (unhide hrow3).frozen (lo * 36 + 31)
        have y32 := (unhide hrow3).frozen (lo * 36 + 32)
        go_quiet (fail)
        have hz1 : lo - lo = 0 := by omega
        have ht1 : t1 = -1 := (unhide H1).tree.elim fun f h => by rw [hz1] at h; exact h.nil
        subst ht1
        by_cases hz2 : lo + len - 1 - lo = 0
        · have ht2 : t2 = -1 := (unhide H2).tree.elim fun f h => by rw [hz2] at h; exact h.nil
          subst ht2
          cases hrm : rm lo
          · rw [hrm] at q25
            have Hrm := hide hrm
            clear hrm
            go_wp2_with fail
            go_ret
            have h4 := rowIs_sumsI (w := w3.drewN nq) (unhide hrow3) lo (1) (1) (sh lo) (1) (1) (by omega) (by omega)
            refine ⟨_, _, rfl, h4, ?_, tree_join hr1 hr2 (unhide H1).tree (unhide H2).tree (unhide H2).out (unhide o3) (unhide e1) (unhide e2) _ _ _ ?_ ?_ ?_, ?_, ?_⟩
            · have hc := ((((unhide H2).cnt.of_block (unhide hkb3)).setOther (a := ⟨SB, lo * 36 + 30, none⟩) (Ne.symm b3) (.int .i64 (1))).setOther (a := ⟨SB, lo * 36 + 31, none⟩) (Ne.symm b3) (.int .i64 (1))).setOther (a := ⟨SB, lo * 36 + 32, none⟩) (Ne.symm b3) (.int .u64 ((sh lo : Nat) : Int))
              rw [show k + 1 + (lo - lo) + (lo + len - 1 - lo) = k + len by omega] at hc
              exact hc
            · omega
            · have hfl : flF rm lo = 1 := by unfold flF; rw [unhide Hrm]; rfl
              have := sumF_node (flF rm) lo (len - 1) lo hr1 (by omega)
              rw [show len - 1 + 1 = len by omega, show lo + (len - 1) - lo = lo + len - 1 - lo by omega, hfl, show lo - lo = 0 by omega, show lo + len - 1 - lo = 0 by omega] at this
              rw [this]; simp [sumF]
            · have := xorF_node sh lo (len - 1) lo hr1 (by omega)
              rw [show len - 1 + 1 = len by omega, show lo + (len - 1) - lo = lo + len - 1 - lo by omega, show lo - lo = 0 by omega, show lo + len - 1 - lo = 0 by omega] at this
              rw [this]; simp [xorF, xorN]
            · intro i hi
              rw [upd_other _ _ _ (by omega), unhide o3 i (by omega), (unhide H2).out i (by omega), (unhide H1).out i (by omega)]
            · exact ((((unhide htwo3).drewN nq).setA (lo * 36 + 30) _).setA (lo * 36 + 31) _).setA (lo * 36 + 32) _
          · rw [hrm] at q25
            have Hrm := hide hrm
            clear hrm
            go_wp2_with fail
            go_ret
            have h4 := rowIs_sumsI (w := w3.drewN nq) (unhide hrow3) lo (1) (0) (sh lo) (1) (0) (by omega) (by omega)
            refine ⟨_, _, rfl, h4, ?_, tree_join hr1 hr2 (unhide H1).tree (unhide H2).tree (unhide H2).out (unhide o3) (unhide e1) (unhide e2) _ _ _ ?_ ?_ ?_, ?_, ?_⟩
            · have hc := ((((unhide H2).cnt.of_block (unhide hkb3)).setOther (a := ⟨SB, lo * 36 + 30, none⟩) (Ne.symm b3) (.int .i64 (1))).setOther (a := ⟨SB, lo * 36 + 31, none⟩) (Ne.symm b3) (.int .i64 (0))).setOther (a := ⟨SB, lo * 36 + 32, none⟩) (Ne.symm b3) (.int .u64 ((sh lo : Nat) : Int))
              rw [show k + 1 + (lo - lo) + (lo + len - 1 - lo) = k + len by omega] at hc
              exact hc
            · omega
            · have hfl : flF rm lo = 0 := by unfold flF; rw [unhide Hrm]; rfl
              have := sumF_node (flF rm) lo (len - 1) lo hr1 (by omega)
              rw [show len - 1 + 1 = len by omega, show lo + (len - 1) - lo = lo + len - 1 - lo by omega, hfl, show lo - lo = 0 by omega, show lo + len - 1 - lo = 0 by omega] at this
              rw [this]; simp [sumF]
            · have := xorF_node sh lo (len - 1) lo hr1 (by omega)
              rw [show len - 1 + 1 = len by omega, show lo + (len - 1) - lo = lo + len - 1 - lo by omega, show lo - lo = 0 by omega, show lo + len - 1 - lo = 0 by omega] at this
              rw [this]; simp [xorF, xorN]
            · intro i hi
              rw [upd_other _ _ _ (by omega), unhide o3 i (by omega), (unhide H2).out i (by omega), (unhide H1).out i (by omega)]
            · exact ((((unhide htwo3).drewN nq).setA (lo * 36 + 30) _).setA (lo * 36 + 31) _).setA (lo * 36 + 32) _
        · obtain ⟨r2, Ht2, m1, m2, m3, m4, m5⟩ : ∃ r2 : Nat, t2 = (r2 : Int) ∧ lo + 1 ≤ r2 ∧ r2 < n ∧ (T2 r2).i = lo + len - 1 - lo ∧ (T2 r2).v = sumF (flF rm) (lo + 1) (lo + len - 1 - lo) ∧ (T2 r2).x = xorF sh (lo + 1) (lo + len - 1 - lo) :=
            (unhide H2).tree.elim fun f h => by
              obtain ⟨_, r2, _, a, b, c, d, e, f, _⟩ := h.node (by omega)
              exact ⟨r2, a, b, by omega, d, e, f⟩
          subst Ht2
          have p30 := rowCell (unhide hrow3) m2 30 (by omega)
          have p31 := rowCell (unhide hrow3) m2 31 (by omega)
          have p32 := rowCell (unhide hrow3) m2 32 (by omega)
          simp only [slotCell] at p30 p31 p32
          rw [unhide o3 r2 (by omega), m3] at p30
          rw [unhide o3 r2 (by omega), m4] at p31
          rw [unhide o3 r2 (by omega), m5] at p32
          clear m3 m4 m5
          have t2b : ((r2 : Int) != -1) = true := bne_iff_ne.mpr (by omega)
          have lS2 := sumF_le (f := flF rm) (lo := lo + 1) (flF_le rm) (lo + len - 1 - lo)
          cases hrm : rm lo
          · rw [hrm] at q25
            have Hrm := hide hrm
            clear hrm
            have hx2 := bits_xorN (sh lo) (xorF sh (lo + 1) (lo + len - 1 - lo)) (hsh lo) (xorF_lt hsh _)
            go_wp2_with fail
            go_ret
            have h4 := rowIs_sumsI (w := w3.drewN nq) (unhide hrow3) lo (1 + (lo + len - 1 - lo)) (1 + sumF (flF rm) (lo + 1) (lo + len - 1 - lo)) (xorN (sh lo) (xorF sh (lo + 1) (lo + len - 1 - lo))) (1 + ((lo + len - 1 - lo : Nat) : Int)) (1 + ((sumF (flF rm) (lo + 1) (lo + len - 1 - lo) : Nat) : Int)) (by omega) (by omega)
            refine ⟨_, _, rfl, h4, ?_, tree_join hr1 hr2 (unhide H1).tree (unhide H2).tree (unhide H2).out (unhide o3) (unhide e1) (unhide e2) _ _ _ ?_ ?_ ?_, ?_, ?_⟩
            · have hc := ((((unhide H2).cnt.of_block (unhide hkb3)).setOther (a := ⟨SB, lo * 36 + 30, none⟩) (Ne.symm b3) (.int .i64 (1 + ((lo + len - 1 - lo : Nat) : Int)))).setOther (a := ⟨SB, lo * 36 + 31, none⟩) (Ne.symm b3) (.int .i64 (1 + ((sumF (flF rm) (lo + 1) (lo + len - 1 - lo) : Nat) : Int)))).setOther (a := ⟨SB, lo * 36 + 32, none⟩) (Ne.symm b3) (.int .u64 ((xorN (sh lo) (xorF sh (lo + 1) (lo + len - 1 - lo)) : Nat) : Int))
              rw [show k + 1 + (lo - lo) + (lo + len - 1 - lo) = k + len by omega] at hc
              exact hc
            · omega
            · have hfl : flF rm lo = 1 := by unfold flF; rw [unhide Hrm]; rfl
              have := sumF_node (flF rm) lo (len - 1) lo hr1 (by omega)
              rw [show len - 1 + 1 = len by omega, show lo + (len - 1) - lo = lo + len - 1 - lo by omega, hfl, show lo - lo = 0 by omega] at this
              rw [this]; simp [sumF] <;> omega
            · have := xorF_node sh lo (len - 1) lo hr1 (by omega)
              rw [show len - 1 + 1 = len by omega, show lo + (len - 1) - lo = lo + len - 1 - lo by omega, show lo - lo = 0 by omega] at this
              rw [this]; simp [xorF, xorN]
            · intro i hi
              rw [upd_other _ _ _ (by omega), unhide o3 i (by omega), (unhide H2).out i (by omega), (unhide H1).out i (by omega)]
            · exact ((((unhide htwo3).drewN nq).setA (lo * 36 + 30) _).setA (lo * 36 + 31) _).setA (lo * 36 + 32) _
          · rw [hrm] at q25
            have Hrm := hide hrm
            clear hrm
            have hx2 := bits_xorN (sh lo) (xorF sh (lo + 1) (lo + len - 1 - lo)) (hsh lo) (xorF_lt hsh _)
            go_wp2_with fail
            go_ret
            have h4 := rowIs_sumsI (w := w3.drewN nq) (unhide hrow3) lo (1 + (lo + len - 1 - lo)) (0 + sumF (flF rm) (lo + 1) (lo + len - 1 - lo)) (xorN (sh lo) (xorF sh (lo + 1) (lo + len - 1 - lo))) (1 + ((lo + len - 1 - lo : Nat) : Int)) (((sumF (flF rm) (lo + 1) (lo + len - 1 - lo) : Nat) : Int)) (by omega) (by omega)
            refine ⟨_, _, rfl, h4, ?_, tree_join hr1 hr2 (unhide H1).tree (unhide H2).tree (unhide H2).out (unhide o3) (unhide e1) (unhide e2) _ _ _ ?_ ?_ ?_, ?_, ?_⟩
            · have hc := ((((unhide H2).cnt.of_block (unhide hkb3)).setOther (a := ⟨SB, lo * 36 + 30, none⟩) (Ne.symm b3) (.int .i64 (1 + ((lo + len - 1 - lo : Nat) : Int)))).setOther (a := ⟨SB, lo * 36 + 31, none⟩) (Ne.symm b3) (.int .i64 (((sumF (flF rm) (lo + 1) (lo + len - 1 - lo) : Nat) : Int)))).setOther (a := ⟨SB, lo * 36 + 32, none⟩) (Ne.symm b3) (.int .u64 ((xorN (sh lo) (xorF sh (lo + 1) (lo + len - 1 - lo)) : Nat) : Int))
              rw [show k + 1 + (lo - lo) + (lo + len - 1 - lo) = k + len by omega] at hc
              exact hc
            · omega
            · have hfl : flF rm lo = 0 := by unfold flF; rw [unhide Hrm]; rfl
              have := sumF_node (flF rm) lo (len - 1) lo hr1 (by omega)
              rw [show len - 1 + 1 = len by omega, show lo + (len - 1) - lo = lo + len - 1 - lo by omega, hfl, show lo - lo = 0 by omega] at this
              rw [this]; simp [sumF] <;> omega
            · have := xorF_node sh lo (len - 1) lo hr1 (by omega)
              rw [show len - 1 + 1 = len by omega, show lo + (len - 1) - lo = lo + len - 1 - lo by omega, show lo - lo = 0 by omega] at this
              rw [this]; simp [xorF, xorN]
            · intro i hi
              rw [upd_other _ _ _ (by omega), unhide o3 i (by omega), (unhide H2).out i (by omega), (unhide H1).out i (by omega)]
            · exact ((((unhide htwo3).drewN nq).setA (lo * 36 + 30) _).setA (lo * 36 + 31) _).setA (lo * 36 + 32) _
      · have hpos : 0 < np := by omega
        rcases hP with hP | ⟨pb, po, rfl, hpb, hpc⟩
        · omega
        have hpc := hpc (k % np) (Nat.mod_lt _ hpos)
        have hpc' : w.cell? ⟨pb, po + k % np, none⟩ = some (.int .u8 ((ps (k % np) : Nat) : Int)) := hpc
        clear hpc
        obtain ⟨m0, m1⟩ := int_mod_bd (k : Int) (np : Int) (by omega)
        have hpv := hps (k % np)
        generalize ps (k % np) = p at hpc' hpv
        have hne : pb ≠ kb := by omega
        obtain ⟨m2, m3⟩ := int_mod_bd (p : Int) (hi - lo + 1) (by omega)
        obtain ⟨r, hr⟩ : ∃ r : Nat, (lo : Int) + (p : Int) % (hi - lo + 1) = (r : Int) := ⟨((lo : Int) + (p : Int) % (hi - lo + 1)).toNat, by omega⟩
        have hr1 : lo ≤ r := by omega
        have hr2 : r < lo + len := by have := unhide Hhi; omega
        have Hr := hide hr
        clear hr
        go_enter Yba.func5, Yba.ntmps5
        go_wp2_with fail
        rw [unhide Hr]
        refine (unhide IH (r - lo) (by omega) lo (k + 1) T _ (lo : Int) ((r : Int) - 1) rfl (by omega) (by omega) (by omega) (unhide c12) (unhide hrow2) (unhide hcnt2) (unhide hP2)).mono ?_
        rintro e w1 ⟨t1, T1, rfl, hb1⟩
        have H1 := hide hb1
        clear hb1
        have htw1 := hide ((unhide hw2).trans (unhide H1).two)
        go_wp2_with fail
        refine (unhide IH (lo + len - 1 - r) (by omega) (r + 1) (k + 1 + (r - lo)) T1 _ ((r : Int) + 1) hi (by omega) (by have := unhide Hhi; omega) (by omega) (by omega) (((unhide H1).two.cell (p := ⟨st, 1, none⟩) b4 b5).trans (unhide c12)) (unhide H1).row (unhide H1).cnt ((unhide hP2).two (unhide H1).two b1 b2)).mono ?_
        rintro e w2 ⟨t2, T2, rfl, hb2⟩
        have H2 := hide hb2
        clear hb2
        have htw2 := hide ((unhide htw1).trans (unhide H2).two)
        have c1b := ((unhide htw2).cell (p := ⟨st, 1, none⟩) b4 b5).trans c1
        have hRn : r < n := by omega
        have d28 := rowCell (unhide H2).row hRn 28 (by omega)
        have d29 := rowCell (unhide H2).row hRn 29 (by omega)
        have y28 := (unhide H2).row.frozen (r * 36 + 28)
        have y29 := (unhide H2).row.frozen (r * 36 + 29)
        have i0 : (0 : Int) ≤ (r : Int) := by omega
        have i1 : (r : Int) < (n : Int) := by omega
        clear c1
        go_wp2_with fail
        have hrow3 := rowIs_r (rowIs_l (unhide H2).row r t1) r t2
        have htwo3 := ((unhide htw2).setA (r * 36 + 28) (.int .i32 t1)).setA (r * 36 + 29) (.int .i32 t2)
        have hkb3 : ((w2.setCell ⟨SB, r * 36 + 28, none⟩ (.int .i32 t1)).setCell ⟨SB, r * 36 + 29, none⟩ (.int .i32 t2)).heap[kb]? = w2.heap[kb]? := (Below.heap_setCell _ _ _ _ (Ne.symm b3)).trans (Below.heap_setCell _ _ _ _ (Ne.symm b3))
        have c1c := (htwo3.cell (p := ⟨st, 1, none⟩) b4 b5)
        have o3 : ∀ i, i ≠ r → upd (upd T2 r { T2 r with l := t1 }) r { upd T2 r { T2 r with l := t1 } r with r := t2 } i = T2 i := fun i h => by rw [upd_other _ _ _ h, upd_other _ _ _ h]
        have e1 : (upd (upd T2 r { T2 r with l := t1 }) r { upd T2 r { T2 r with l := t1 } r with r := t2 } r).l = t1 := by simp only [upd_same]
        have e2 : (upd (upd T2 r { T2 r with l := t1 }) r { upd T2 r { T2 r with l := t1 } r with r := t2 } r).r = t2 := by simp only [upd_same]
        generalize upd (upd T2 r { T2 r with l := t1 }) r { upd T2 r { T2 r with l := t1 } r with r := t2 } = T3 at hrow3 o3 e1 e2
        generalize (w2.setCell ⟨SB, r * 36 + 28, none⟩ (.int .i32 t1)).setCell ⟨SB, r * 36 + 29, none⟩ (.int .i32 t2) = w3 at hrow3 htwo3 hkb3 c1c ⊢
        have c1d := c1c.trans (((unhide htw2).cell (p := ⟨st, 1, none⟩) b4 b5).symm.trans c1b)
        have hkb3' := hide hkb3
        clear hkb3
        have hkb3 := hkb3'
        clear hkb3'
        have hrow3' := hide hrow3
        clear hrow3
        have hrow3 := hrow3'
        have htwo3' := hide htwo3
        clear htwo3
        have htwo3 := htwo3'
        have o3' := hide o3
        clear o3
        have o3 := o3'
        have e1' := hide e1
        clear e1
        have e1 := e1'
        have e2' := hide e2
        clear e2
        have e2 := e2'
        clear c1c c1b d28 d29 y28 y29
        have q25 := rowCell (unhide hrow3) hRn 25 (by omega)
        have q26 := rowCell (unhide hrow3) hRn 26 (by omega)
        have q30 := rowCell (unhide hrow3) hRn 30 (by omega)
        have q31 := rowCell (unhide hrow3) hRn 31 (by omega)
        have q32 := rowCell (unhide hrow3) hRn 32 (by omega)
        simp only [slotCell] at q25 q26 q30 q31 q32
        have y30 := (unhide hrow3).frozen (r * 36 + 30)
        have y31 := (unhide hrow3).frozen (r * 36 + 31)
        have y32 := (unhide hrow3).frozen (r * 36 + 32)
        go_quiet (fail)
        by_cases hz1 : r - lo = 0
        · have ht1 : t1 = -1 := (unhide H1).tree.elim fun f h => by rw [hz1] at h; exact h.nil
          subst ht1
          by_cases hz2 : lo + len - 1 - r = 0
          · have ht2 : t2 = -1 := (unhide H2).tree.elim fun f h => by rw [hz2] at h; exact h.nil
            subst ht2
            cases hrm : rm r
            · rw [hrm] at q25
              have Hrm := hide hrm
              clear hrm
              go_wp2_with fail
              go_ret
              have h4 := rowIs_sumsI (w := w3.drewN nq) (unhide hrow3) r (1) (1) (sh r) (1) (1) (by omega) (by omega)
              refine ⟨_, _, rfl, h4, ?_, tree_join hr1 hr2 (unhide H1).tree (unhide H2).tree (unhide H2).out (unhide o3) (unhide e1) (unhide e2) _ _ _ ?_ ?_ ?_, ?_, ?_⟩
              · have hc := ((((unhide H2).cnt.of_block (unhide hkb3)).setOther (a := ⟨SB, r * 36 + 30, none⟩) (Ne.symm b3) (.int .i64 (1))).setOther (a := ⟨SB, r * 36 + 31, none⟩) (Ne.symm b3) (.int .i64 (1))).setOther (a := ⟨SB, r * 36 + 32, none⟩) (Ne.symm b3) (.int .u64 ((sh r : Nat) : Int))
                rw [show k + 1 + (r - lo) + (lo + len - 1 - r) = k + len by omega] at hc
                exact hc
              · omega
              · have hfl : flF rm r = 1 := by unfold flF; rw [unhide Hrm]; rfl
                have := sumF_node (flF rm) lo (len - 1) r hr1 (by omega)
                rw [show len - 1 + 1 = len by omega, show lo + (len - 1) - r = lo + len - 1 - r by omega, hfl, show r - lo = 0 by omega, show lo + len - 1 - r = 0 by omega] at this
                rw [this]; simp [sumF]
              · have := xorF_node sh lo (len - 1) r hr1 (by omega)
                rw [show len - 1 + 1 = len by omega, show lo + (len - 1) - r = lo + len - 1 - r by omega, show r - lo = 0 by omega, show lo + len - 1 - r = 0 by omega] at this
                rw [this]; simp [xorF, xorN]
              · intro i hi
                rw [upd_other _ _ _ (by omega), unhide o3 i (by omega), (unhide H2).out i (by omega), (unhide H1).out i (by omega)]
              · exact ((((unhide htwo3).drewN nq).setA (r * 36 + 30) _).setA (r * 36 + 31) _).setA (r * 36 + 32) _
            · rw [hrm] at q25
              have Hrm := hide hrm
              clear hrm
              go_wp2_with fail
              go_ret
              have h4 := rowIs_sumsI (w := w3.drewN nq) (unhide hrow3) r (1) (0) (sh r) (1) (0) (by omega) (by omega)
              refine ⟨_, _, rfl, h4, ?_, tree_join hr1 hr2 (unhide H1).tree (unhide H2).tree (unhide H2).out (unhide o3) (unhide e1) (unhide e2) _ _ _ ?_ ?_ ?_, ?_, ?_⟩
              · have hc := ((((unhide H2).cnt.of_block (unhide hkb3)).setOther (a := ⟨SB, r * 36 + 30, none⟩) (Ne.symm b3) (.int .i64 (1))).setOther (a := ⟨SB, r * 36 + 31, none⟩) (Ne.symm b3) (.int .i64 (0))).setOther (a := ⟨SB, r * 36 + 32, none⟩) (Ne.symm b3) (.int .u64 ((sh r : Nat) : Int))
                rw [show k + 1 + (r - lo) + (lo + len - 1 - r) = k + len by omega] at hc
                exact hc
              · omega
              · have hfl : flF rm r = 0 := by unfold flF; rw [unhide Hrm]; rfl
                have := sumF_node (flF rm) lo (len - 1) r hr1 (by omega)
                rw [show len - 1 + 1 = len by omega, show lo + (len - 1) - r = lo + len - 1 - r by omega, hfl, show r - lo = 0 by omega, show lo + len - 1 - r = 0 by omega] at this
                rw [this]; simp [sumF]
              · have := xorF_node sh lo (len - 1) r hr1 (by omega)
                rw [show len - 1 + 1 = len by omega, show lo + (len - 1) - r = lo + len - 1 - r by omega, show r - lo = 0 by omega, show lo + len - 1 - r = 0 by omega] at this
                rw [this]; simp [xorF, xorN]
              · intro i hi
                rw [upd_other _ _ _ (by omega), unhide o3 i (by omega), (unhide H2).out i (by omega), (unhide H1).out i (by omega)]
              · exact ((((unhide htwo3).drewN nq).setA (r * 36 + 30) _).setA (r * 36 + 31) _).setA (r * 36 + 32) _
          · obtain ⟨r2, Ht2, m1, m2, m3, m4, m5⟩ : ∃ r2 : Nat, t2 = (r2 : Int) ∧ r + 1 ≤ r2 ∧ r2 < n ∧ (T2 r2).i = lo + len - 1 - r ∧ (T2 r2).v = sumF (flF rm) (r + 1) (lo + len - 1 - r) ∧ (T2 r2).x = xorF sh (r + 1) (lo + len - 1 - r) :=
              (unhide H2).tree.elim fun f h => by
                obtain ⟨_, r2, _, a, b, c, d, e, f, _⟩ := h.node (by omega)
                exact ⟨r2, a, b, by omega, d, e, f⟩
            subst Ht2
            have p30 := rowCell (unhide hrow3) m2 30 (by omega)
            have p31 := rowCell (unhide hrow3) m2 31 (by omega)
            have p32 := rowCell (unhide hrow3) m2 32 (by omega)
            simp only [slotCell] at p30 p31 p32
            rw [unhide o3 r2 (by omega), m3] at p30
            rw [unhide o3 r2 (by omega), m4] at p31
            rw [unhide o3 r2 (by omega), m5] at p32
            clear m3 m4 m5
            have t2b : ((r2 : Int) != -1) = true := bne_iff_ne.mpr (by omega)
            have lS2 := sumF_le (f := flF rm) (lo := r + 1) (flF_le rm) (lo + len - 1 - r)
            cases hrm : rm r
            · rw [hrm] at q25
              have Hrm := hide hrm
              clear hrm
              have hx2 := bits_xorN (sh r) (xorF sh (r + 1) (lo + len - 1 - r)) (hsh r) (xorF_lt hsh _)
              go_wp2_with fail
              go_ret
              have h4 := rowIs_sumsI (w := w3.drewN nq) (unhide hrow3) r (1 + (lo + len - 1 - r)) (1 + sumF (flF rm) (r + 1) (lo + len - 1 - r)) (xorN (sh r) (xorF sh (r + 1) (lo + len - 1 - r))) (1 + ((lo + len - 1 - r : Nat) : Int)) (1 + ((sumF (flF rm) (r + 1) (lo + len - 1 - r) : Nat) : Int)) (by omega) (by omega)
              refine ⟨_, _, rfl, h4, ?_, tree_join hr1 hr2 (unhide H1).tree (unhide H2).tree (unhide H2).out (unhide o3) (unhide e1) (unhide e2) _ _ _ ?_ ?_ ?_, ?_, ?_⟩
              · have hc := ((((unhide H2).cnt.of_block (unhide hkb3)).setOther (a := ⟨SB, r * 36 + 30, none⟩) (Ne.symm b3) (.int .i64 (1 + ((lo + len - 1 - r : Nat) : Int)))).setOther (a := ⟨SB, r * 36 + 31, none⟩) (Ne.symm b3) (.int .i64 (1 + ((sumF (flF rm) (r + 1) (lo + len - 1 - r) : Nat) : Int)))).setOther (a := ⟨SB, r * 36 + 32, none⟩) (Ne.symm b3) (.int .u64 ((xorN (sh r) (xorF sh (r + 1) (lo + len - 1 - r)) : Nat) : Int))
                rw [show k + 1 + (r - lo) + (lo + len - 1 - r) = k + len by omega] at hc
                exact hc
              · omega
              · have hfl : flF rm r = 1 := by unfold flF; rw [unhide Hrm]; rfl
                have := sumF_node (flF rm) lo (len - 1) r hr1 (by omega)
                rw [show len - 1 + 1 = len by omega, show lo + (len - 1) - r = lo + len - 1 - r by omega, hfl, show r - lo = 0 by omega] at this
                rw [this]; simp [sumF] <;> omega
              · have := xorF_node sh lo (len - 1) r hr1 (by omega)
                rw [show len - 1 + 1 = len by omega, show lo + (len - 1) - r = lo + len - 1 - r by omega, show r - lo = 0 by omega] at this
                rw [this]; simp [xorF, xorN]
              · intro i hi
                rw [upd_other _ _ _ (by omega), unhide o3 i (by omega), (unhide H2).out i (by omega), (unhide H1).out i (by omega)]
              · exact ((((unhide htwo3).drewN nq).setA (r * 36 + 30) _).setA (r * 36 + 31) _).setA (r * 36 + 32) _
            · rw [hrm] at q25
              have Hrm := hide hrm
              clear hrm
              have hx2 := bits_xorN (sh r) (xorF sh (r + 1) (lo + len - 1 - r)) (hsh r) (xorF_lt hsh _)
              go_wp2_with fail
              go_ret
              have h4 := rowIs_sumsI (w := w3.drewN nq) (unhide hrow3) r (1 + (lo + len - 1 - r)) (0 + sumF (flF rm) (r + 1) (lo + len - 1 - r)) (xorN (sh r) (xorF sh (r + 1) (lo + len - 1 - r))) (1 + ((lo + len - 1 - r : Nat) : Int)) (((sumF (flF rm) (r + 1) (lo + len - 1 - r) : Nat) : Int)) (by omega) (by omega)
              refine ⟨_, _, rfl, h4, ?_, tree_join hr1 hr2 (unhide H1).tree (unhide H2).tree (unhide H2).out (unhide o3) (unhide e1) (unhide e2) _ _ _ ?_ ?_ ?_, ?_, ?_⟩
              · have hc := ((((unhide H2).cnt.of_block (unhide hkb3)).setOther (a := ⟨SB, r * 36 + 30, none⟩) (Ne.symm b3) (.int .i64 (1 + ((lo + len - 1 - r : Nat) : Int)))).setOther (a := ⟨SB, r * 36 + 31, none⟩) (Ne.symm b3) (.int .i64 (((sumF (flF rm) (r + 1) (lo + len - 1 - r) : Nat) : Int)))).setOther (a := ⟨SB, r * 36 + 32, none⟩) (Ne.symm b3) (.int .u64 ((xorN (sh r) (xorF sh (r + 1) (lo + len - 1 - r)) : Nat) : Int))
                rw [show k + 1 + (r - lo) + (lo + len - 1 - r) = k + len by omega] at hc
                exact hc
              · omega
              · have hfl : flF rm r = 0 := by unfold flF; rw [unhide Hrm]; rfl
                have := sumF_node (flF rm) lo (len - 1) r hr1 (by omega)
                rw [show len - 1 + 1 = len by omega, show lo + (len - 1) - r = lo + len - 1 - r by omega, hfl, show r - lo = 0 by omega] at this
                rw [this]; simp [sumF] <;> omega
              · have := xorF_node sh lo (len - 1) r hr1 (by omega)
                rw [show len - 1 + 1 = len by omega, show lo + (len - 1) - r = lo + len - 1 - r by omega, show r - lo = 0 by omega] at this
                rw [this]; simp [xorF, xorN]
              · intro i hi
                rw [upd_other _ _ _ (by omega), unhide o3 i (by omega), (unhide H2).out i (by omega), (unhide H1).out i (by omega)]
              · exact ((((unhide htwo3).drewN nq).setA (r * 36 + 30) _).setA (r * 36 + 31) _).setA (r * 36 + 32) _
        · obtain ⟨l1, Ht1, u1, u2, u3, u4, u5⟩ : ∃ l1 : Nat, t1 = (l1 : Int) ∧ lo ≤ l1 ∧ l1 < r ∧ (T1 l1).i = r - lo ∧ (T1 l1).v = sumF (flF rm) lo (r - lo) ∧ (T1 l1).x = xorF sh lo (r - lo) :=
            (unhide H1).tree.elim fun f h => by
              obtain ⟨_, l1, _, a, b, c, d, e, f, _⟩ := h.node (by omega)
              exact ⟨l1, a, b, by omega, d, e, f⟩
          subst Ht1
          have o30 := rowCell (unhide hrow3) (show l1 < n by omega) 30 (by omega)
          have o31 := rowCell (unhide hrow3) (show l1 < n by omega) 31 (by omega)
          have o32 := rowCell (unhide hrow3) (show l1 < n by omega) 32 (by omega)
          simp only [slotCell] at o30 o31 o32
          rw [unhide o3 l1 (by omega), (unhide H2).out l1 (by omega), u3] at o30
          rw [unhide o3 l1 (by omega), (unhide H2).out l1 (by omega), u4] at o31
          rw [unhide o3 l1 (by omega), (unhide H2).out l1 (by omega), u5] at o32
          clear u3 u4 u5
          have t1b : ((l1 : Int) != -1) = true := bne_iff_ne.mpr (by omega)
          have lS1 := sumF_le (f := flF rm) (lo := lo) (flF_le rm) (r - lo)
          by_cases hz2 : lo + len - 1 - r = 0
          · have ht2 : t2 = -1 := (unhide H2).tree.elim fun f h => by rw [hz2] at h; exact h.nil
            subst ht2
            cases hrm : rm r
            · rw [hrm] at q25
              have Hrm := hide hrm
              clear hrm
              have hx1 := bits_xorN (sh r) (xorF sh lo (r - lo)) (hsh r) (xorF_lt hsh _)
              go_wp2_with fail
              go_ret
              have h4 := rowIs_sumsI (w := w3.drewN nq) (unhide hrow3) r (1 + (r - lo)) (1 + sumF (flF rm) lo (r - lo)) (xorN (sh r) (xorF sh lo (r - lo))) (1 + ((r - lo : Nat) : Int)) (1 + ((sumF (flF rm) lo (r - lo) : Nat) : Int)) (by omega) (by omega)
              refine ⟨_, _, rfl, h4, ?_, tree_join hr1 hr2 (unhide H1).tree (unhide H2).tree (unhide H2).out (unhide o3) (unhide e1) (unhide e2) _ _ _ ?_ ?_ ?_, ?_, ?_⟩
              · have hc := ((((unhide H2).cnt.of_block (unhide hkb3)).setOther (a := ⟨SB, r * 36 + 30, none⟩) (Ne.symm b3) (.int .i64 (1 + ((r - lo : Nat) : Int)))).setOther (a := ⟨SB, r * 36 + 31, none⟩) (Ne.symm b3) (.int .i64 (1 + ((sumF (flF rm) lo (r - lo) : Nat) : Int)))).setOther (a := ⟨SB, r * 36 + 32, none⟩) (Ne.symm b3) (.int .u64 ((xorN (sh r) (xorF sh lo (r - lo)) : Nat) : Int))
                rw [show k + 1 + (r - lo) + (lo + len - 1 - r) = k + len by omega] at hc
                exact hc
              · omega
              · have hfl : flF rm r = 1 := by unfold flF; rw [unhide Hrm]; rfl
                have := sumF_node (flF rm) lo (len - 1) r hr1 (by omega)
                rw [show len - 1 + 1 = len by omega, show lo + (len - 1) - r = lo + len - 1 - r by omega, hfl, show lo + len - 1 - r = 0 by omega] at this
                rw [this]; simp [sumF] <;> omega
              · have := xorF_node sh lo (len - 1) r hr1 (by omega)
                rw [show len - 1 + 1 = len by omega, show lo + (len - 1) - r = lo + len - 1 - r by omega, show lo + len - 1 - r = 0 by omega] at this
                rw [this]; simp [xorF, xorN]; exact Nat.xor_comm _ _
              · intro i hi
                rw [upd_other _ _ _ (by omega), unhide o3 i (by omega), (unhide H2).out i (by omega), (unhide H1).out i (by omega)]
              · exact ((((unhide htwo3).drewN nq).setA (r * 36 + 30) _).setA (r * 36 + 31) _).setA (r * 36 + 32) _
            · rw [hrm] at q25
              have Hrm := hide hrm
              clear hrm
              have hx1 := bits_xorN (sh r) (xorF sh lo (r - lo)) (hsh r) (xorF_lt hsh _)
              go_wp2_with fail
              go_ret
              have h4 := rowIs_sumsI (w := w3.drewN nq) (unhide hrow3) r (1 + (r - lo)) (0 + sumF (flF rm) lo (r - lo)) (xorN (sh r) (xorF sh lo (r - lo))) (1 + ((r - lo : Nat) : Int)) (((sumF (flF rm) lo (r - lo) : Nat) : Int)) (by omega) (by omega)
              refine ⟨_, _, rfl, h4, ?_, tree_join hr1 hr2 (unhide H1).tree (unhide H2).tree (unhide H2).out (unhide o3) (unhide e1) (unhide e2) _ _ _ ?_ ?_ ?_, ?_, ?_⟩
              · have hc := ((((unhide H2).cnt.of_block (unhide hkb3)).setOther (a := ⟨SB, r * 36 + 30, none⟩) (Ne.symm b3) (.int .i64 (1 + ((r - lo : Nat) : Int)))).setOther (a := ⟨SB, r * 36 + 31, none⟩) (Ne.symm b3) (.int .i64 (((sumF (flF rm) lo (r - lo) : Nat) : Int)))).setOther (a := ⟨SB, r * 36 + 32, none⟩) (Ne.symm b3) (.int .u64 ((xorN (sh r) (xorF sh lo (r - lo)) : Nat) : Int))
                rw [show k + 1 + (r - lo) + (lo + len - 1 - r) = k + len by omega] at hc
                exact hc
              · omega
              · have hfl : flF rm r = 0 := by unfold flF; rw [unhide Hrm]; rfl
                have := sumF_node (flF rm) lo (len - 1) r hr1 (by omega)
                rw [show len - 1 + 1 = len by omega, show lo + (len - 1) - r = lo + len - 1 - r by omega, hfl, show lo + len - 1 - r = 0 by omega] at this
                rw [this]; simp [sumF] <;> omega
              · have := xorF_node sh lo (len - 1) r hr1 (by omega)
                rw [show len - 1 + 1 = len by omega, show lo + (len - 1) - r = lo + len - 1 - r by omega, show lo + len - 1 - r = 0 by omega] at this
                rw [this]; simp [xorF, xorN]; exact Nat.xor_comm _ _
              · intro i hi
                rw [upd_other _ _ _ (by omega), unhide o3 i (by omega), (unhide H2).out i (by omega), (unhide H1).out i (by omega)]
              · exact ((((unhide htwo3).drewN nq).setA (r * 36 + 30) _).setA (r * 36 + 31) _).setA (r * 36 + 32) _
          · obtain ⟨r2, Ht2, m1, m2, m3, m4, m5⟩ : ∃ r2 : Nat, t2 = (r2 : Int) ∧ r + 1 ≤ r2 ∧ r2 < n ∧ (T2 r2).i = lo + len - 1 - r ∧ (T2 r2).v = sumF (flF rm) (r + 1) (lo + len - 1 - r) ∧ (T2 r2).x = xorF sh (r + 1) (lo + len - 1 - r) :=
              (unhide H2).tree.elim fun f h => by
                obtain ⟨_, r2, _, a, b, c, d, e, f, _⟩ := h.node (by omega)
                exact ⟨r2, a, b, by omega, d, e, f⟩
            subst Ht2
            have p30 := rowCell (unhide hrow3) m2 30 (by omega)
            have p31 := rowCell (unhide hrow3) m2 31 (by omega)
            have p32 := rowCell (unhide hrow3) m2 32 (by omega)
            simp only [slotCell] at p30 p31 p32
            rw [unhide o3 r2 (by omega), m3] at p30
            rw [unhide o3 r2 (by omega), m4] at p31
            rw [unhide o3 r2 (by omega), m5] at p32
            clear m3 m4 m5
            have t2b : ((r2 : Int) != -1) = true := bne_iff_ne.mpr (by omega)
            have lS2 := sumF_le (f := flF rm) (lo := r + 1) (flF_le rm) (lo + len - 1 - r)
            cases hrm : rm r
            · rw [hrm] at q25
              have Hrm := hide hrm
              clear hrm
              have hx1 := bits_xorN (sh r) (xorF sh lo (r - lo)) (hsh r) (xorF_lt hsh _)
              have hx2 := bits_xorN (xorN (sh r) (xorF sh lo (r - lo))) (xorF sh (r + 1) (lo + len - 1 - r)) (xorN_lt (hsh r) (xorF_lt hsh _)) (xorF_lt hsh _)
              go_wp2_with fail
              go_ret
              have h4 := rowIs_sumsI (w := w3.drewN nq) (unhide hrow3) r (1 + (r - lo) + (lo + len - 1 - r)) (1 + sumF (flF rm) lo (r - lo) + sumF (flF rm) (r + 1) (lo + len - 1 - r)) (xorN (xorN (sh r) (xorF sh lo (r - lo))) (xorF sh (r + 1) (lo + len - 1 - r))) (1 + ((r - lo : Nat) : Int) + ((lo + len - 1 - r : Nat) : Int)) (1 + ((sumF (flF rm) lo (r - lo) : Nat) : Int) + ((sumF (flF rm) (r + 1) (lo + len - 1 - r) : Nat) : Int)) (by omega) (by omega)
              refine ⟨_, _, rfl, h4, ?_, tree_join hr1 hr2 (unhide H1).tree (unhide H2).tree (unhide H2).out (unhide o3) (unhide e1) (unhide e2) _ _ _ ?_ ?_ ?_, ?_, ?_⟩
              · have hc := ((((unhide H2).cnt.of_block (unhide hkb3)).setOther (a := ⟨SB, r * 36 + 30, none⟩) (Ne.symm b3) (.int .i64 (1 + ((r - lo : Nat) : Int) + ((lo + len - 1 - r : Nat) : Int)))).setOther (a := ⟨SB, r * 36 + 31, none⟩) (Ne.symm b3) (.int .i64 (1 + ((sumF (flF rm) lo (r - lo) : Nat) : Int) + ((sumF (flF rm) (r + 1) (lo + len - 1 - r) : Nat) : Int)))).setOther (a := ⟨SB, r * 36 + 32, none⟩) (Ne.symm b3) (.int .u64 ((xorN (xorN (sh r) (xorF sh lo (r - lo))) (xorF sh (r + 1) (lo + len - 1 - r)) : Nat) : Int))
                rw [show k + 1 + (r - lo) + (lo + len - 1 - r) = k + len by omega] at hc
                exact hc
              · omega
              · have hfl : flF rm r = 1 := by unfold flF; rw [unhide Hrm]; rfl
                have := sumF_node (flF rm) lo (len - 1) r hr1 (by omega)
                rw [show len - 1 + 1 = len by omega, show lo + (len - 1) - r = lo + len - 1 - r by omega, hfl] at this
                rw [this]; simp [sumF] <;> omega
              · have := xorF_node sh lo (len - 1) r hr1 (by omega)
                rw [show len - 1 + 1 = len by omega, show lo + (len - 1) - r = lo + len - 1 - r by omega] at this
                rw [this]; simp [xorF, xorN]; exact xorx _ _ _
              · intro i hi
                rw [upd_other _ _ _ (by omega), unhide o3 i (by omega), (unhide H2).out i (by omega), (unhide H1).out i (by omega)]
              · exact ((((unhide htwo3).drewN nq).setA (r * 36 + 30) _).setA (r * 36 + 31) _).setA (r * 36 + 32) _
            · rw [hrm] at q25
              have Hrm := hide hrm
              clear hrm
              have hx1 := bits_xorN (sh r) (xorF sh lo (r - lo)) (hsh r) (xorF_lt hsh _)
              have hx2 := bits_xorN (xorN (sh r) (xorF sh lo (r - lo))) (xorF sh (r + 1) (lo + len - 1 - r)) (xorN_lt (hsh r) (xorF_lt hsh _)) (xorF_lt hsh _)
              go_wp2_with fail
              go_ret
              have h4 := rowIs_sumsI (w := w3.drewN nq) (unhide hrow3) r (1 + (r - lo) + (lo + len - 1 - r)) (0 + sumF (flF rm) lo (r - lo) + sumF (flF rm) (r + 1) (lo + len - 1 - r)) (xorN (xorN (sh r) (xorF sh lo (r - lo))) (xorF sh (r + 1) (lo + len - 1 - r))) (1 + ((r - lo : Nat) : Int) + ((lo + len - 1 - r : Nat) : Int)) (((sumF (flF rm) lo (r - lo) : Nat) : Int) + ((sumF (flF rm) (r + 1) (lo + len - 1 - r) : Nat) : Int)) (by omega) (by omega)
              refine ⟨_, _, rfl, h4, ?_, tree_join hr1 hr2 (unhide H1).tree (unhide H2).tree (unhide H2).out (unhide o3) (unhide e1) (unhide e2) _ _ _ ?_ ?_ ?_, ?_, ?_⟩
              · have hc := ((((unhide H2).cnt.of_block (unhide hkb3)).setOther (a := ⟨SB, r * 36 + 30, none⟩) (Ne.symm b3) (.int .i64 (1 + ((r - lo : Nat) : Int) + ((lo + len - 1 - r : Nat) : Int)))).setOther (a := ⟨SB, r * 36 + 31, none⟩) (Ne.symm b3) (.int .i64 (((sumF (flF rm) lo (r - lo) : Nat) : Int) + ((sumF (flF rm) (r + 1) (lo + len - 1 - r) : Nat) : Int)))).setOther (a := ⟨SB, r * 36 + 32, none⟩) (Ne.symm b3) (.int .u64 ((xorN (xorN (sh r) (xorF sh lo (r - lo))) (xorF sh (r + 1) (lo + len - 1 - r)) : Nat) : Int))
                rw [show k + 1 + (r - lo) + (lo + len - 1 - r) = k + len by omega] at hc
                exact hc
              · omega
              · have hfl : flF rm r = 0 := by unfold flF; rw [unhide Hrm]; rfl
                have := sumF_node (flF rm) lo (len - 1) r hr1 (by omega)
                rw [show len - 1 + 1 = len by omega, show lo + (len - 1) - r = lo + len - 1 - r by omega, hfl] at this
                rw [this]; simp [sumF] <;> omega
              · have := xorF_node sh lo (len - 1) r hr1 (by omega)
                rw [show len - 1 + 1 = len by omega, show lo + (len - 1) - r = lo + len - 1 - r by omega] at this
                rw [this]; simp [xorF, xorN]; exact xorx _ _ _
              · intro i hi
                rw [upd_other _ _ _ (by omega), unhide o3 i (by omega), (unhide H2).out i (by omega), (unhide H1).out i (by omega)]
              · exact ((((unhide htwo3).drewN nq).setA (r * 36 + 30) _).setA (r * 36 + 31) _).setA (r * 36 + 32) _

end Go.Proofs.Ybulkbtqm

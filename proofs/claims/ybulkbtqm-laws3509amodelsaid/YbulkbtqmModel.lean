import Derived.Test.YbulkbtqmUp
namespace Go.Proofs.Ybulkbtqm
open Go.RowKit
set_option linter.unusedVariables false

/-- The law's items in memory. -/
def Items (w : World) (ai : Option Addr) (n : Nat) (st sh : Nat → Nat) (rm : Nat → Bool) : Prop :=
  n = 0 ∨ ∃ b o, ai = some ⟨b, o, none⟩ ∧ ∀ i, i < n → w.cell? ⟨b, o + i * 3, none⟩ = some (.int .u8 (st i)) ∧ w.cell? ⟨b, o + i * 3 + 1, none⟩ = some (.int .u64 (sh i)) ∧ w.cell? ⟨b, o + i * 3 + 2, none⟩ = some (.bool (rm i))
theorem Items.later {w w' : World} {ai : Option Addr} {n : Nat} {st sh : Nat → Nat} {rm : Nat → Bool} (h : Items w ai n st sh rm) (hB : Below w.heap.size w w') : Items w' ai n st sh rm := by
  rcases h with h | ⟨b, o, rfl, hc⟩
  · exact .inl h
  · exact .inr ⟨b, o, rfl, fun i hi => ⟨cell_stays hB (hc i hi).1, cell_stays hB (hc i hi).2.1, cell_stays hB (hc i hi).2.2⟩⟩

structure AccW (w wr : World) (A V X : Nat) : Prop where
  res : wr.rowIs w.heap.size 37 3 (accF 0 0 0)
  acc : wr.rowIs (w.heap.size + 1) 37 3 (accF A V X)
  bel : Below w.heap.size w wr

theorem AccW.later {w wr w' : World} {A V X : Nat} (h : AccW w wr A V X) (hB : Below wr.heap.size wr w') : AccW w w' A V X :=
  ⟨h.res.of_block (hB.block _ h.res.lt), h.acc.of_block (hB.block _ h.acc.lt), h.bel.trans (hB.mono h.bel.size)⟩

theorem AccW.start (w : World) : AccW w ((w.alloc (.cells #[.int .i64 0, .int .i64 0, .int .u64 0] 37)).alloc (.cells #[.int .i64 0, .int .i64 0, .int .u64 0] 37)) 0 0 0 := by
  have e : (w.alloc (.cells #[.int .i64 0, .int .i64 0, .int .u64 0] 37)).heap.size = w.heap.size + 1 := by simp
  refine ⟨(World.rowIs_alloc _ _ 37 _ (fun i hi => by
      match i, hi with
      | 0, _ => rfl
      | 1, _ => rfl
      | 2, _ => rfl)).alloc _, ?_, ((Below.refl _ _).alloc (Nat.le_refl _) _).alloc (by simp) _⟩
  rw [← e]
  exact World.rowIs_alloc _ _ 37 _ (fun i hi => by
      match i, hi with
      | 0, _ => rfl
      | 1, _ => rfl
      | 2, _ => rfl)

theorem AccW.put {w wr : World} {A V X : Nat} (h : AccW w wr A V X) (A' X' : Nat) :
    AccW w ((wr.setCell ⟨w.heap.size + 1, 0, none⟩ (.int .i64 A')).setCell ⟨w.heap.size + 1, 2, none⟩ (.int .u64 X')) A' V X' := by
  refine ⟨(h.res.setOther (by show w.heap.size ≠ w.heap.size + 1; omega) _).setOther (by show w.heap.size ≠ w.heap.size + 1; omega) _, ?_, (h.bel.setCell (p := ⟨w.heap.size + 1, 0, none⟩) (by show w.heap.size ≤ w.heap.size + 1; omega) _).setCell (p := ⟨w.heap.size + 1, 2, none⟩) (by show w.heap.size ≤ w.heap.size + 1; omega) _⟩
  refine ((h.acc.set 0 (.int .i64 A')).set 2 (.int .u64 X')).congr fun i hi => ?_
  match i, hi with
  | 0, _ => rfl
  | 1, _ => rfl
  | 2, _ => rfl

theorem AccW.put3 {w wr : World} {A V X : Nat} (h : AccW w wr A V X) (A' V' X' : Nat) :
    AccW w (((wr.setCell ⟨w.heap.size + 1, 0, none⟩ (.int .i64 A')).setCell ⟨w.heap.size + 1, 1, none⟩ (.int .i64 V')).setCell ⟨w.heap.size + 1, 2, none⟩ (.int .u64 X')) A' V' X' := by
  refine ⟨((h.res.setOther (by show w.heap.size ≠ w.heap.size + 1; omega) _).setOther (by show w.heap.size ≠ w.heap.size + 1; omega) _).setOther (by show w.heap.size ≠ w.heap.size + 1; omega) _, ?_, ((h.bel.setCell (p := ⟨w.heap.size + 1, 0, none⟩) (by show w.heap.size ≤ w.heap.size + 1; omega) _).setCell (p := ⟨w.heap.size + 1, 1, none⟩) (by show w.heap.size ≤ w.heap.size + 1; omega) _).setCell (p := ⟨w.heap.size + 1, 2, none⟩) (by show w.heap.size ≤ w.heap.size + 1; omega) _⟩
  refine (((h.acc.set 0 (.int .i64 A')).set 1 (.int .i64 V')).set 2 (.int .u64 X')).congr fun i hi => ?_
  match i, hi with
  | 0, _ => rfl
  | 1, _ => rfl
  | 2, _ => rfl
theorem AccW.drew {w wr : World} {A V X : Nat} (h : AccW w wr A V X) : AccW w wr.drew A V X := ⟨h.res, h.acc, h.bel.drew⟩

theorem step_in (p : Nat → Bool) (fl fx : Nat → Nat) (s k : Nat) (h : p (s + k) = true) : sumF (cI p) s (k + 1) = sumF (cI p) s k + 1 ∧ sumF (cV p fl) s (k + 1) = sumF (cV p fl) s k + fl (s + k) ∧ xorF (cV p fx) s (k + 1) = xorN (xorF (cV p fx) s k) (fx (s + k)) := by
  refine ⟨?_, ?_, ?_⟩
  · show _ + cI p (s + k) = _; unfold cI; rw [h]; rfl
  · show _ + cV p fl (s + k) = _; unfold cV; rw [h]; rfl
  · show _ ^^^ cV p fx (s + k) = _; unfold cV xorN; rw [h]; rfl
theorem step_out (p : Nat → Bool) (fl fx : Nat → Nat) (s k : Nat) (h : p (s + k) = false) : sumF (cI p) s (k + 1) = sumF (cI p) s k ∧ sumF (cV p fl) s (k + 1) = sumF (cV p fl) s k ∧ xorF (cV p fx) s (k + 1) = xorF (cV p fx) s k := by
  refine ⟨?_, ?_, ?_⟩
  · show _ + cI p (s + k) = _; unfold cI; rw [h]; rfl
  · show _ + cV p fl (s + k) = _; unfold cV; rw [h]; rfl
  · show _ ^^^ cV p fx (s + k) = _; unfold cV; rw [h]; simp
theorem leq_run (a b : ByteArray) (w : World) : (binOp .leq 9 (.string a) (.string b)).run Yba.prog w = .ok (.bool (Op.bytesLess a.toList b.toList || (a.toList == b.toList))) w := by
  simp [binOp, Op.stringOp]
theorem cI_le (p : Nat → Bool) (i : Nat) : cI p i ≤ 1 := by unfold cI; split <;> omega
theorem cV_le (p : Nat → Bool) (rm : Nat → Bool) (i : Nat) : cV p (flF rm) i ≤ 1 := by
  unfold cV; split
  · exact flF_le rm i
  · omega
theorem cX_lt (p : Nat → Bool) {sh : Nat → Nat} (hsh : ∀ i, sh i < 18446744073709551616) (i : Nat) : cV p sh i < 18446744073709551616 := by
  unfold cV; split
  · exact hsh i
  · omega

section
variable {w : World} {n : Nat} {g st sh : Nat → Nat} {rm : Nat → Bool}

set_option maxHeartbeats 2000000 in
set_option maxRecDepth 100000 in
theorem model_any (ai : Option Addr) (ci : Nat) (hI : Items w ai n st sh rm) (GB cg : Nat) (hG : ∀ i, i < n → w.cell? ⟨GB, i, none⟩ = some (.int .i64 (g i))) (hn : n ≤ 600) (hg : ∀ i, g i ≤ 255) (hsh : ∀ i, sh i < 18446744073709551616)
    (mg : Nat) (hmg : mg ≤ 255) (mk : ByteArray) (s len : Nat) (hi : Int) (hhi : hi = (s : Int) + len - 1) (hsl : s + len ≤ n) :
    Calls Yba.prog 8 #[.slice ai n ci, .slice (some ⟨GB, 0, none⟩) n cg, .int .i64 s, .int .i64 hi, .int .i64 mg, .string mk] w fun e w' => e = .returned (.agg #[.int .i64 (sumF (cI (inB g mg mk)) s len : Nat), .int .i64 (sumF (cV (inB g mg mk) (flF rm)) s len : Nat), .int .u64 (xorF (cV (inB g mg mk) sh) s len : Nat)]) ∧ Below w.heap.size w w' := by
  have hhi1 : hi ≤ 600 := by omega
  have hhi2 : -1 ≤ hi := by omega
  have Hhi := hide hhi
  clear hhi
  go_enter Yba.func8, Yba.ntmps8
  go_wp2
  go_loopw [14] (fun iv wr => ∃ k : Nat, k ≤ len ∧ iv = .int .i64 ((s + k : Nat) : Int) ∧ Hid (AccW w wr (sumF (cI (inB g mg mk)) s k) (sumF (cV (inB g mg mk) (flF rm)) s k) (xorF (cV (inB g mg mk) sh) s k))) (fun iv _ => s + len - (intOf iv).toNat)
  case atStart => exact ⟨0, Nat.zero_le _, rfl, AccW.start w⟩
  case round =>
    obtain ⟨k, hk, rfl, hW⟩ := hrel
    by_cases hlt : k < len
    · have ht1 : ((s + k : Nat) : Int) ≤ hi := by have := unhide Hhi; omega
      have hx := (hG (s + k) (by omega))
      have hx := cell_stays (unhide hW).bel hx
      rcases hI with hI | ⟨b, o, rfl, hc⟩
      · omega
      obtain ⟨_, hy, hz⟩ := hc (s + k) (by omega)
      have hbl := World.block_lt_of_cell? _ _ hy
      have hy := cell_stays (unhide hW).bel hy
      have hz := cell_stays (unhide hW).bel hz
      have lA := sumF_le (lo := s) (cI_le (inB g mg mk)) k
      have lV := sumF_le (lo := s) (cV_le (inB g mg mk) rm) k
      have lX := xorF_lt (lo := s) (cX_lt (inB g mg mk) hsh) k
      have lS := hsh (s + k)
      generalize hA : sumF (cI (inB g mg mk)) s k = A at *
      generalize hV : sumF (cV (inB g mg mk) (flF rm)) s k = V at *
      generalize hX : xorF (cV (inB g mg mk) sh) s k = X at *
      have hA := hide hA
      have hV := hide hV
      have hX := hide hX
      have a0 := (unhide hW).acc.cell (i := 0) (by omega)
      have a1 := (unhide hW).acc.cell (i := 1) (by omega)
      have a2 := (unhide hW).acc.cell (i := 2) (by omega)
      have f0 := (unhide hW).acc.frozen 0
      have f1 := (unhide hW).acc.frozen 1
      have f2 := (unhide hW).acc.frozen 2
      simp only [accF] at a0 a1 a2
      have hbx := hide (bits_xor_u64_nat X (sh (s + k)) lX lS)
      generalize hgi : g (s + k) = gi at *
      have hgi := hide hgi
      by_cases c1 : gi < mg
      · have hp : inB g mg mk (s + k) = true := by unfold inB; rw [unhide hgi, if_pos c1]
        have hst := hide (step_in (inB g mg mk) (flF rm) sh s k hp)
        clear hp
        cases hr : rm (s + k)
        · rw [hr] at hz
          have hr := hide hr
          go_wp2_with fail
          go_region
          all_goals go_wp2
          rw [unhide hbx]
          go_roundw
          case rel =>
            obtain ⟨e1, e2, e3⟩ := unhide hst
            have h5 := (unhide hW).put3 (A + 1) (V + 1) (xorN X (sh (s + k)))
            rw [show ((A + 1 : Nat) : Int) = (A : Int) + 1 from by omega, show ((V + 1 : Nat) : Int) = (V : Int) + 1 from by omega] at h5
            refine ⟨k + 1, by omega, by go_num, ?_⟩
            rw [e1, e2, e3, unhide hA, unhide hV, unhide hX, show flF rm (s + k) = 1 from by unfold flF; rw [unhide hr]; rfl]
            exact h5.drew
          case measure => simp [intOf]; omega
        · rw [hr] at hz
          have hr := hide hr
          go_wp2_with fail
          go_region
          all_goals go_wp2
          rw [unhide hbx]
          go_roundw
          case rel =>
            obtain ⟨e1, e2, e3⟩ := unhide hst
            have h5 := (unhide hW).put (A + 1) (xorN X (sh (s + k)))
            rw [show ((A + 1 : Nat) : Int) = (A : Int) + 1 from by omega] at h5
            refine ⟨k + 1, by omega, by go_num, ?_⟩
            rw [e1, e2, e3, unhide hA, unhide hV, unhide hX, show flF rm (s + k) = 0 from by unfold flF; rw [unhide hr]; rfl]
            exact h5.drew
          case measure => simp [intOf]; omega
      · by_cases c2 : gi = mg
        · have c2b : ((gi : Int) == (mg : Int)) = true := by rw [c2]; simp
          have e0 : inB g mg mk (s + k) = (mk.toList == [] || (Op.bytesLess (keyStr (s + k)).toList mk.toList || ((keyStr (s + k)).toList == mk.toList))) := by unfold inB keyLe; rw [unhide hgi, if_neg c1, if_pos c2]
          have c2 := hide c2
          cases he : (mk.toList == [])
          · cases hs : ((keyStr (s + k)).toList == mk.toList)
            · cases hl : Op.bytesLess (keyStr (s + k)).toList mk.toList
              · have hp : inB g mg mk (s + k) = false := by rw [e0, he, hs, hl]; rfl
                clear e0
                have hst := hide (step_out (inB g mg mk) (flF rm) sh s k hp)
                clear hp
                have hle := fun wx => leq_run (keyStr (s + k)) mk wx
                rw [hl, hs] at hle
                clear hs hl
                go_wp2_with fail
                refine (key_any (s + k) _ (by omega)).mono ?_
                rintro e w2 ⟨rfl, hB2⟩
                have a0 := cell_stays hB2 a0
                have a1 := cell_stays hB2 a1
                have a2 := cell_stays hB2 a2
                have hy := cell_stays hB2 hy
                have hz := cell_stays hB2 hz
                have hW := hide ((unhide hW).later hB2)
                have f0 := (unhide hW).acc.frozen 0
                have f1 := (unhide hW).acc.frozen 1
                have f2 := (unhide hW).acc.frozen 2
                go_wp2_with fail
                go_roundw
                case rel =>
                  obtain ⟨e1, e2, e3⟩ := unhide hst
                  refine ⟨k + 1, by omega, by go_num, ?_⟩
                  rw [e1, e2, e3, unhide hA, unhide hV, unhide hX]
                  exact unhide hW
                case measure => simp [intOf]; omega
              · have hp : inB g mg mk (s + k) = true := by rw [e0, he, hs, hl]; rfl
                clear e0
                have hst := hide (step_in (inB g mg mk) (flF rm) sh s k hp)
                clear hp
                have hle := fun wx => leq_run (keyStr (s + k)) mk wx
                rw [hl, hs] at hle
                clear hs hl
                cases hr : rm (s + k)
                · rw [hr] at hz
                  have hr := hide hr
                  go_wp2_with fail
                  refine (key_any (s + k) _ (by omega)).mono ?_
                  rintro e w2 ⟨rfl, hB2⟩
                  have a0 := cell_stays hB2 a0
                  have a1 := cell_stays hB2 a1
                  have a2 := cell_stays hB2 a2
                  have hy := cell_stays hB2 hy
                  have hz := cell_stays hB2 hz
                  have hW := hide ((unhide hW).later hB2)
                  have f0 := (unhide hW).acc.frozen 0
                  have f1 := (unhide hW).acc.frozen 1
                  have f2 := (unhide hW).acc.frozen 2
                  go_wp2_with fail
                  go_region
                  all_goals go_wp2
                  rw [unhide hbx]
                  go_roundw
                  case rel =>
                    obtain ⟨e1, e2, e3⟩ := unhide hst
                    have h5 := (unhide hW).put3 (A + 1) (V + 1) (xorN X (sh (s + k)))
                    rw [show ((A + 1 : Nat) : Int) = (A : Int) + 1 from by omega, show ((V + 1 : Nat) : Int) = (V : Int) + 1 from by omega] at h5
                    refine ⟨k + 1, by omega, by go_num, ?_⟩
                    rw [e1, e2, e3, unhide hA, unhide hV, unhide hX, show flF rm (s + k) = 1 from by unfold flF; rw [unhide hr]; rfl]
                    exact h5.drew
                  case measure => simp [intOf]; omega
                · rw [hr] at hz
                  have hr := hide hr
                  go_wp2_with fail
                  refine (key_any (s + k) _ (by omega)).mono ?_
                  rintro e w2 ⟨rfl, hB2⟩
                  have a0 := cell_stays hB2 a0
                  have a1 := cell_stays hB2 a1
                  have a2 := cell_stays hB2 a2
                  have hy := cell_stays hB2 hy
                  have hz := cell_stays hB2 hz
                  have hW := hide ((unhide hW).later hB2)
                  have f0 := (unhide hW).acc.frozen 0
                  have f1 := (unhide hW).acc.frozen 1
                  have f2 := (unhide hW).acc.frozen 2
                  go_wp2_with fail
                  go_region
                  all_goals go_wp2
                  rw [unhide hbx]
                  go_roundw
                  case rel =>
                    obtain ⟨e1, e2, e3⟩ := unhide hst
                    have h5 := (unhide hW).put (A + 1) (xorN X (sh (s + k)))
                    rw [show ((A + 1 : Nat) : Int) = (A : Int) + 1 from by omega] at h5
                    refine ⟨k + 1, by omega, by go_num, ?_⟩
                    rw [e1, e2, e3, unhide hA, unhide hV, unhide hX, show flF rm (s + k) = 0 from by unfold flF; rw [unhide hr]; rfl]
                    exact h5.drew
                  case measure => simp [intOf]; omega
            · have hp : inB g mg mk (s + k) = true := by rw [e0, he, hs]; simp
              clear e0
              have hst := hide (step_in (inB g mg mk) (flF rm) sh s k hp)
              clear hp
              have hle := fun wx => leq_run (keyStr (s + k)) mk wx
              rw [hs, Bool.or_true] at hle
              clear hs
              cases hr : rm (s + k)
              · rw [hr] at hz
                have hr := hide hr
                go_wp2_with fail
                refine (key_any (s + k) _ (by omega)).mono ?_
                rintro e w2 ⟨rfl, hB2⟩
                have a0 := cell_stays hB2 a0
                have a1 := cell_stays hB2 a1
                have a2 := cell_stays hB2 a2
                have hy := cell_stays hB2 hy
                have hz := cell_stays hB2 hz
                have hW := hide ((unhide hW).later hB2)
                have f0 := (unhide hW).acc.frozen 0
                have f1 := (unhide hW).acc.frozen 1
                have f2 := (unhide hW).acc.frozen 2
                go_wp2_with fail
                go_region
                all_goals go_wp2
                rw [unhide hbx]
                go_roundw
                case rel =>
                  obtain ⟨e1, e2, e3⟩ := unhide hst
                  have h5 := (unhide hW).put3 (A + 1) (V + 1) (xorN X (sh (s + k)))
                  rw [show ((A + 1 : Nat) : Int) = (A : Int) + 1 from by omega, show ((V + 1 : Nat) : Int) = (V : Int) + 1 from by omega] at h5
                  refine ⟨k + 1, by omega, by go_num, ?_⟩
                  rw [e1, e2, e3, unhide hA, unhide hV, unhide hX, show flF rm (s + k) = 1 from by unfold flF; rw [unhide hr]; rfl]
                  exact h5.drew
                case measure => simp [intOf]; omega
              · rw [hr] at hz
                have hr := hide hr
                go_wp2_with fail
                refine (key_any (s + k) _ (by omega)).mono ?_
                rintro e w2 ⟨rfl, hB2⟩
                have a0 := cell_stays hB2 a0
                have a1 := cell_stays hB2 a1
                have a2 := cell_stays hB2 a2
                have hy := cell_stays hB2 hy
                have hz := cell_stays hB2 hz
                have hW := hide ((unhide hW).later hB2)
                have f0 := (unhide hW).acc.frozen 0
                have f1 := (unhide hW).acc.frozen 1
                have f2 := (unhide hW).acc.frozen 2
                go_wp2_with fail
                go_region
                all_goals go_wp2
                rw [unhide hbx]
                go_roundw
                case rel =>
                  obtain ⟨e1, e2, e3⟩ := unhide hst
                  have h5 := (unhide hW).put (A + 1) (xorN X (sh (s + k)))
                  rw [show ((A + 1 : Nat) : Int) = (A : Int) + 1 from by omega] at h5
                  refine ⟨k + 1, by omega, by go_num, ?_⟩
                  rw [e1, e2, e3, unhide hA, unhide hV, unhide hX, show flF rm (s + k) = 0 from by unfold flF; rw [unhide hr]; rfl]
                  exact h5.drew
                case measure => simp [intOf]; omega
          · have hp : inB g mg mk (s + k) = true := by rw [e0, he]; rfl
            clear e0
            have hst := hide (step_in (inB g mg mk) (flF rm) sh s k hp)
            clear hp
            cases hr : rm (s + k)
            · rw [hr] at hz
              have hr := hide hr
              go_wp2_with fail
              go_region
              all_goals go_wp2
              rw [unhide hbx]
              go_roundw
              case rel =>
                obtain ⟨e1, e2, e3⟩ := unhide hst
                have h5 := (unhide hW).put3 (A + 1) (V + 1) (xorN X (sh (s + k)))
                rw [show ((A + 1 : Nat) : Int) = (A : Int) + 1 from by omega, show ((V + 1 : Nat) : Int) = (V : Int) + 1 from by omega] at h5
                refine ⟨k + 1, by omega, by go_num, ?_⟩
                rw [e1, e2, e3, unhide hA, unhide hV, unhide hX, show flF rm (s + k) = 1 from by unfold flF; rw [unhide hr]; rfl]
                exact h5.drew
              case measure => simp [intOf]; omega
            · rw [hr] at hz
              have hr := hide hr
              go_wp2_with fail
              go_region
              all_goals go_wp2
              rw [unhide hbx]
              go_roundw
              case rel =>
                obtain ⟨e1, e2, e3⟩ := unhide hst
                have h5 := (unhide hW).put (A + 1) (xorN X (sh (s + k)))
                rw [show ((A + 1 : Nat) : Int) = (A : Int) + 1 from by omega] at h5
                refine ⟨k + 1, by omega, by go_num, ?_⟩
                rw [e1, e2, e3, unhide hA, unhide hV, unhide hX, show flF rm (s + k) = 0 from by unfold flF; rw [unhide hr]; rfl]
                exact h5.drew
              case measure => simp [intOf]; omega
        · have hp : inB g mg mk (s + k) = false := by unfold inB; rw [unhide hgi, if_neg c1, if_neg c2]
          have c2b : ((gi : Int) == (mg : Int)) = false := by simp; omega
          have hst := hide (step_out (inB g mg mk) (flF rm) sh s k hp)
          clear hp
          go_wp2_with fail
          go_roundw
          case rel =>
            obtain ⟨e1, e2, e3⟩ := unhide hst
            refine ⟨k + 1, by omega, by go_num, ?_⟩
            rw [e1, e2, e3, unhide hA, unhide hV, unhide hX]
            exact unhide hW
          case measure => simp [intOf]; omega
    · have hkl : k = len := by omega
      subst hkl
      have a0 := (unhide hW).acc.cell (i := 0) (by omega)
      have a1 := (unhide hW).acc.cell (i := 1) (by omega)
      have a2 := (unhide hW).acc.cell (i := 2) (by omega)
      have r0 := (unhide hW).res.cell (i := 0) (by omega)
      have r1 := (unhide hW).res.cell (i := 1) (by omega)
      have r2 := (unhide hW).res.cell (i := 2) (by omega)
      have f0 := (unhide hW).res.frozen 0
      have f1 := (unhide hW).res.frozen 1
      have f2 := (unhide hW).res.frozen 2
      simp only [accF] at a0 a1 a2
      have ht1 : ¬ ((s + k : Nat) : Int) ≤ hi := by have := unhide Hhi; omega
      go_wp2_with fail
      have hW2 := (unhide hW)
      generalize sumF (cI (inB g mg mk)) s k = A at *
      generalize sumF (cV (inB g mg mk) (flF rm)) s k = V at *
      generalize xorF (cV (inB g mg mk) sh) s k = X at *
      have hrow := ((hW2.res.set 0 (.int .i64 A)).set 1 (.int .i64 V)).set 2 (.int .u64 X)
      have hrg : (((wr.setCell ⟨w.heap.size, 0, none⟩ (.int .i64 A)).setCell ⟨w.heap.size, 1, none⟩ (.int .i64 V)).setCell ⟨w.heap.size, 2, none⟩ (.int .u64 X)).rangeAt w.heap.size 0 [.int .i64 A, .int .i64 V, .int .u64 X] := by
        intro j v hj
        match j, hj with
        | 0, hj => exact (hrow.cell (i := 0) (by omega)).trans hj
        | 1, hj => exact (hrow.cell (i := 1) (by omega)).trans hj
        | 2, hj => exact (hrow.cell (i := 2) (by omega)).trans hj
        | j + 3, hj => simp at hj
      refine bodyPost_ret (v := .agg #[.int .i64 A, .int .i64 V, .int .u64 X]) (results_one Yba.results8 rfl (run_loadVar_mid _ _ _ _ [.int .i64 A, .int .i64 V, .int .u64 X] _ hrg Yba.underlying37 rfl info37)) rfl ⟨rfl, ?_⟩
      exact ((hW2.bel.setCell (p := ⟨w.heap.size, 0, none⟩) (Nat.le_refl _) _).setCell (p := ⟨w.heap.size, 1, none⟩) (Nat.le_refl _) _).setCell (p := ⟨w.heap.size, 2, none⟩) (Nat.le_refl _) _
end
end Go.Proofs.Ybulkbtqm

import Derived.Test.YbulkbtqmTo
import Derived.Test.YbulkbtqmUpPlain
namespace Go.Proofs.Ybulkbtqm
open Go.RowKit
set_option linter.unusedVariables false

set_option maxRecDepth 100000 in
theorem plus_int (a b c d : Int) (x y : Nat) (w : World) (h1 : 0 ≤ a) (h2 : a ≤ 10000) (h3 : 0 ≤ b) (h4 : b ≤ 10000) (h5 : 0 ≤ c) (h6 : c ≤ 10000) (h7 : 0 ≤ d) (h8 : d ≤ 10000) (hx : x < 18446744073709551616) (hy : y < 18446744073709551616) :
    Calls Yba.prog 10 #[.agg #[.int .i64 a, .int .i64 b, .int .u64 x], .agg #[.int .i64 c, .int .i64 d, .int .u64 y]] w fun e w' => e = .returned (.agg #[.int .i64 (a + c), .int .i64 (b + d), .int .u64 (xorN x y : Nat)]) ∧ Below w.heap.size w w' := by
  have hxy := hide (bits_xor_u64_nat x y hx hy)
  go_enter Yba.func10, Yba.ntmps10
  go_wp2
  rw [unhide hxy]
  refine bodyPost_ret (v := .agg #[.int .i64 (a + c), .int .i64 (b + d), .int .u64 (xorN x y : Nat)]) (by simp [results, Yba.results10, go_sem, xorN]) rfl ⟨rfl, ?_⟩
  exact (((Below.refl _ _).alloc (Nat.le_refl _) _).alloc (by simp) _).alloc (by simp; omega) _

section
variable {w : World} {st SB CB BB n cap : Nat} {g sh : Nat → Nat} {rm : Nat → Bool} {T : Nat → TD}

theorem own_fl (hM : Mem w st SB CB BB n cap g sh rm T) (hn : n ≤ 600) (i : Nat) (hi : i < n) :
    Calls Yba.prog 12 #[.pointer (some ⟨st, 0, none⟩), .int .i32 i] w fun e w' => e = .returned (.agg #[.int .i64 1, .int .i64 (flF rm i : Nat), .int .u64 (sh i)]) ∧ Below w.heap.size w w' := by
  have := own_any hM hn i hi
  unfold flF
  cases hr : rm i <;> (rw [hr] at this; exact this)

theorem sums_tree (hM : Mem w st SB CB BB n cap g sh rm T) (hn : n ≤ 600) (t : Int) (lo len : Nat) (h : ∃ f, IsTree T (flF rm) sh f t lo len) (hl : lo + len ≤ n) :
    Calls Yba.prog 11 #[.pointer (some ⟨st, 0, none⟩), .int .i32 t] w fun e w' => e = .returned (.agg #[.int .i64 (len : Nat), .int .i64 (sumF (flF rm) lo len : Nat), .int .u64 (xorF sh lo len : Nat)]) ∧ Below w.heap.size w w' := by
  obtain ⟨f, h⟩ := h
  by_cases hz : len = 0
  · subst hz
    rw [h.nil]
    exact sums_none st w
  · obtain ⟨_, r, _, rfl, _, h2, h3, h4, h5, _⟩ := h.node (by omega)
    have := sums_some hM hn r (by omega)
    rw [h3, h4, h5] at this
    exact this
end

def accF (A V X : Nat) : Nat → Value
  | 0 => .int .i64 A
  | 1 => .int .i64 V
  | _ => .int .u64 X

/-- The world at the head of a round: the mark's box, the result's row, the sums' row; nothing older has turned. -/
structure UpW (w wr : World) (mg : Int) (mk : ByteArray) (A V X : Nat) : Prop where
  box : wr.rangeAt w.heap.size 0 (markList mg mk)
  res : wr.rowIs (w.heap.size + 1) 37 3 (accF 0 0 0)
  acc : wr.rowIs (w.heap.size + 1 + 1) 37 3 (accF A V X)
  bel : Below w.heap.size w wr
  size : w.heap.size + 3 ≤ wr.heap.size

theorem rangeAt_below {w w' : World} {b o : Nat} {cs : List Value} (h : w.rangeAt b o cs) (hB : Below w.heap.size w w') : w'.rangeAt b o cs := fun j v hv => cell_stays hB (h j v hv)
theorem there_below {w w' : World} {b o n : Nat} (h : w.there b o n) (hB : Below w.heap.size w w') : w'.there b o n := fun j hj => by
  obtain ⟨h1, h2⟩ := h j hj
  obtain ⟨v, hv⟩ := Option.isSome_iff_exists.1 h1
  have hb := World.block_lt_of_cell? _ _ hv
  exact ⟨by rw [cell_stays hB hv]; rfl, (hB.frozen (p := ⟨b, o + j, none⟩) hb).trans h2⟩

theorem UpW.later {w wr w' : World} {mg : Int} {mk : ByteArray} {A V X : Nat} (h : UpW w wr mg mk A V X) (hB : Below wr.heap.size wr w') : UpW w w' mg mk A V X :=
  ⟨rangeAt_below h.box hB, h.res.of_block (hB.block _ h.res.lt), h.acc.of_block (hB.block _ h.acc.lt), h.bel.trans (hB.mono h.bel.size), Nat.le_trans h.size hB.size⟩

theorem UpW.store {w wr : World} {mg : Int} {mk : ByteArray} {A V X : Nat} (h : UpW w wr mg mk A V X) (A' V' X' : Nat) :
    UpW w (((wr.setCell ⟨w.heap.size + 1 + 1, 0, none⟩ (.int .i64 A')).setCell ⟨w.heap.size + 1 + 1, 1, none⟩ (.int .i64 V')).setCell ⟨w.heap.size + 1 + 1, 2, none⟩ (.int .u64 X')) mg mk A' V' X' := by
  refine ⟨fun j v hv => ?_, ?_, ?_, ?_, by simpa using h.size⟩
  · rw [World.cell?_setCell_other _ _ _ _ (by simp), World.cell?_setCell_other _ _ _ _ (by simp), World.cell?_setCell_other _ _ _ _ (by simp)]
    exact h.box j v hv
  · exact ((h.res.setOther (by show w.heap.size + 1 ≠ w.heap.size + 1 + 1; omega) _).setOther (by show w.heap.size + 1 ≠ w.heap.size + 1 + 1; omega) _).setOther (by show w.heap.size + 1 ≠ w.heap.size + 1 + 1; omega) _
  · refine (((h.acc.set 0 (.int .i64 A')).set 1 (.int .i64 V')).set 2 (.int .u64 X')).congr fun i hi => ?_
    match i, hi with
    | 0, _ => rfl
    | 1, _ => rfl
    | 2, _ => rfl
  · exact ((h.bel.setCell (p := ⟨w.heap.size + 1 + 1, 0, none⟩) (by show w.heap.size ≤ w.heap.size + 1 + 1; omega) _).setCell (p := ⟨w.heap.size + 1 + 1, 1, none⟩) (by show w.heap.size ≤ w.heap.size + 1 + 1; omega) _).setCell (p := ⟨w.heap.size + 1 + 1, 2, none⟩) (by show w.heap.size ≤ w.heap.size + 1 + 1; omega) _

theorem UpW.start (w : World) (mg : Int) (mk : ByteArray) : UpW w (((w.alloc (.cells (markArr mg mk) 60)).alloc (.cells #[.int .i64 0, .int .i64 0, .int .u64 0] 37)).alloc (.cells #[.int .i64 0, .int .i64 0, .int .u64 0] 37)) mg mk 0 0 0 := by
  have h1 := rangeAt_new w (markArr mg mk) 60 _ rfl
  refine ⟨World.rangeAt_alloc (World.rangeAt_alloc h1 _) _, ?_, ?_, (((Below.refl _ _).alloc (Nat.le_refl _) _).alloc (by simp) _).alloc (by simp; omega) _, by simp⟩
  · have e : (w.alloc (.cells (markArr mg mk) 60)).heap.size = w.heap.size + 1 := by simp
    rw [← e]
    exact (World.rowIs_alloc _ _ 37 _ (fun i hi => by
      match i, hi with
      | 0, _ => rfl
      | 1, _ => rfl
      | 2, _ => rfl)).alloc _
  · have e : ((w.alloc (.cells (markArr mg mk) 60)).alloc (.cells #[.int .i64 0, .int .i64 0, .int .u64 0] 37)).heap.size = w.heap.size + 1 + 1 := by simp
    rw [← e]
    exact World.rowIs_alloc _ _ 37 _ (fun i hi => by
      match i, hi with
      | 0, _ => rfl
      | 1, _ => rfl
      | 2, _ => rfl)

theorem info37 : (Yba.prog.info? 37).map (·.size) = some 3 := by kernel_rfl
theorem info60 : (Yba.prog.info? 60).map (·.size) = some 21 := by kernel_rfl

section
variable {w : World} {st SB CB BB n cap : Nat} {g sh : Nat → Nat} {rm : Nat → Bool} {T : Nat → TD}

set_option maxHeartbeats 1000000 in
set_option maxRecDepth 100000 in
theorem up_any (hM : Mem w st SB CB BB n cap g sh rm T) (hn : n ≤ 600) (hg : ∀ i, g i ≤ 255) (hsh : ∀ i, sh i < 18446744073709551616) (mg : Nat) (hmg : mg ≤ 255) (mk : ByteArray)
    (t : Int) (s len : Nat) (ht : ∃ f, IsTree T (flF rm) sh f t s len) (hsl : s + len ≤ n) (hmono : ∀ i j, i ≤ j → j < s + len → inB g mg mk j = true → inB g mg mk i = true) :
    Calls Yba.prog 7 #[.pointer (some ⟨st, 0, none⟩), .int .i32 t, .agg (markArr mg mk)] w fun e w' => e = .returned (.agg #[.int .i64 (sumF (cI (inB g mg mk)) s len : Nat), .int .i64 (sumF (cV (inB g mg mk) (flF rm)) s len : Nat), .int .u64 (xorF (cV (inB g mg mk) sh) s len : Nat)]) ∧ Below w.heap.size w w' := by
  have hst := World.block_lt_of_cell? _ _ hM.slots
  have hMh := hide hM
  have hth := hide ht
  have hmh := hide hmono
  clear hM ht hmono
  go_enter Yba.func7, Yba.ntmps7
  go_wp2
  go_loopw [1] (fun tv wr => ∃ (z : Int) (lo l A V X : Nat), tv = .int .i32 z ∧ Hid (UpInv T (flF rm) sh (inB g mg mk) s (s + len) z lo l A V X) ∧ Hid (UpW w wr mg mk A V X)) (fun tv _ => szOf T (intOf tv))
  case atStart => exact ⟨t, s, len, 0, 0, 0, rfl, UpInv.start (unhide hth), UpW.start w mg mk⟩
  case round =>
    obtain ⟨z, lo, l, A, V, X, rfl, hI, hW⟩ := hrel
    have a0 := (unhide hW).acc.cell (i := 0) (by omega)
    have a1 := (unhide hW).acc.cell (i := 1) (by omega)
    have a2 := (unhide hW).acc.cell (i := 2) (by omega)
    simp only [accF] at a0 a1 a2
    by_cases hz : z = -1
    · subst hz
      have r0 := (unhide hW).res.cell (i := 0) (by omega)
      have r1 := (unhide hW).res.cell (i := 1) (by omega)
      have r2 := (unhide hW).res.cell (i := 2) (by omega)
      have f0 := (unhide hW).res.frozen 0
      have f1 := (unhide hW).res.frozen 1
      have f2 := (unhide hW).res.frozen 2
      have hend := hide (unhide hI).stop
      go_wp2
      have hW2 := (unhide hW)
      have hrow := ((hW2.res.set 0 (.int .i64 A)).set 1 (.int .i64 V)).set 2 (.int .u64 X)
      have hrg : (((wr.setCell ⟨w.heap.size + 1, 0, none⟩ (.int .i64 A)).setCell ⟨w.heap.size + 1, 1, none⟩ (.int .i64 V)).setCell ⟨w.heap.size + 1, 2, none⟩ (.int .u64 X)).rangeAt (w.heap.size + 1) 0 [.int .i64 A, .int .i64 V, .int .u64 X] := by
        intro j v hj
        match j, hj with
        | 0, hj => exact (hrow.cell (i := 0) (by omega)).trans hj
        | 1, hj => exact (hrow.cell (i := 1) (by omega)).trans hj
        | 2, hj => exact (hrow.cell (i := 2) (by omega)).trans hj
        | j + 3, hj => simp at hj
      refine bodyPost_ret (v := .agg #[.int .i64 A, .int .i64 V, .int .u64 X]) (results_one Yba.results7 rfl (run_loadVar_mid _ _ _ _ [.int .i64 A, .int .i64 V, .int .u64 X] _ hrg Yba.underlying37 rfl info37)) rfl ⟨?_, ?_⟩
      · obtain ⟨e1, e2, e3⟩ := unhide hend
        rw [e1, e2, e3, Nat.add_sub_cancel_left]
      · exact ((hW2.bel.setCell (p := ⟨w.heap.size + 1, 0, none⟩) (by show w.heap.size ≤ w.heap.size + 1; omega) _).setCell (p := ⟨w.heap.size + 1, 1, none⟩) (by show w.heap.size ≤ w.heap.size + 1; omega) _).setCell (p := ⟨w.heap.size + 1, 2, none⟩) (by show w.heap.size ≤ w.heap.size + 1; omega) _
    · obtain ⟨r, rfl, hr1, hr2, hl, hrt⟩ := (unhide hI).node hz
      have hrn : r < n := by have := (unhide hI).h2; omega
      have hbd := (unhide hI).bounds (flF_le rm) hsh
      have hlo : lo ≤ 600 := by omega
      have hMr := (unhide hMh).later (unhide hW).bel
      have c1 := hMr.slots
      have hMr := hide hMr
      have hbox := hide (unhide hW).box
      have hl := hide hl
      have hrt := hide hrt
      have hsz : szOf T (r : Int) = l := (unhide hI).tree.elim fun _ h => h.sz
      have hszl : szOf T (T r).l = r - lo := (unhide hl).elim fun _ h => h.sz
      have hszr : szOf T (T r).r = lo + l - 1 - r := (unhide hrt).elim fun _ h => h.sz
      have hsz := hide hsz
      have hszl := hide hszl
      have hszr := hide hszr
      go_wp2_with (first
        | (guard_target = wpList _ _ _ (⟨_, Op.load 60 _, _, _, _, _⟩ :: _) _ _; go_must (refine wpList_load_mid rfl _ _ rfl w.heap.size 0 rfl (markList mg mk) _ (unhide hbox) Yba.underlying60 rfl info60 ?_)))
      refine (to_any (unhide hMr) hn r hrn (hg r) mg hmg mk).mono ?_
      rintro e w1 ⟨c, rfl, hc, hB1⟩
      have hW1 := hide ((unhide hW).later hB1)
      have hM1 := hide ((unhide hMr).later hB1)
      have c1' := (unhide hM1).slots
      have q28 := (unhide hM1).cell hrn 28 (by omega)
      have q29 := (unhide hM1).cell hrn 29 (by omega)
      simp only [slotCell] at q28 q29
      have a0' := cell_stays hB1 a0
      have a1' := cell_stays hB1 a1
      have a2' := cell_stays hB1 a2
      clear a0 a1 a2 c1
      cases hp : inB g mg mk r
      · rw [hp] at hc
        have hc : 0 < c := by simpa using hc
        have hp := hide hp
        go_wp2_with fail
        go_roundw
        case rel => exact ⟨_, lo, r - lo, A, V, X, rfl, (unhide hI).left hr1 hr2 (unhide hl) (unhide hmh) (unhide hp), unhide hW1⟩
        case measure => simp only [intOf]; rw [unhide hsz, unhide hszl]; omega
      · rw [hp] at hc
        have hc : ¬ 0 < c := by simpa using hc
        have hp := hide hp
        have hs1 := sumF_le (f := flF rm) (lo := lo) (flF_le rm) (r - lo)
        have hxl := xorF_lt (f := sh) (lo := lo) hsh (r - lo)
        have hfl := flF_le rm r
        have hshr := hsh r
        go_wp2_with fail
        go_region_with (first
          | (go_at_call 11; refine (sums_tree ((unhide hM1).later ((Below.refl _ _).drew)) hn _ lo (r - lo) (unhide hl) (by omega)).mono ?_; rintro e w2 ⟨rfl, hB2⟩; have hc2 := below_more ((Below.refl _ w1).drew) hB2; have x0 := cell_stays hc2 a0'; have x1 := cell_stays hc2 a1'; have x2 := cell_stays hc2 a2')
          | (go_at_call 12; refine (own_fl ((unhide hM1).later hc3) hn r hrn).mono ?_; rintro e w4 ⟨rfl, hB4⟩; have hc4 := below_more hc3 hB4)
          | (go_at_call 10; refine (plus_int _ _ _ _ _ _ _ (by omega) (by omega) (by omega) (by omega) (by omega) (by omega) (by omega) (by omega) (by first | exact hbd.2.2 | exact xorN_lt hbd.2.2 hxl) (by first | exact hxl | exact hshr)).mono ?_; first
              | (rintro e w5 ⟨rfl, hB5⟩; have hc5 := below_more hc4 hB5; have hW5 := (unhide hW1).later hc5; have y0 := cell_stays hc5 a0'; have y1 := cell_stays hc5 a1'; have y2 := cell_stays hc5 a2'; have z0 := hW5.acc.frozen 0; have z1 := hW5.acc.frozen 1; have z2 := hW5.acc.frozen 2; have q29' := cell_stays hc5 q29; have hW5 := hide hW5)
              | (rintro e w3 ⟨rfl, hB3⟩; have hc3 := below_more hc2 hB3)))
        all_goals (try go_wp2)
        all_goals
          go_roundw
          case rel =>
            have h5 := (unhide hW5).store (A + (r - lo) + 1) (V + sumF (flF rm) lo (r - lo) + flF rm r) (xorN (xorN X (xorF sh lo (r - lo))) (sh r))
            rw [show ((A + (r - lo) + 1 : Nat) : Int) = (A : Int) + ((r - lo : Nat) : Int) + 1 from by omega, show ((V + sumF (flF rm) lo (r - lo) + flF rm r : Nat) : Int) = (V : Int) + (sumF (flF rm) lo (r - lo) : Nat) + (flF rm r : Nat) from by omega] at h5
            exact ⟨_, r + 1, lo + l - 1 - r, _, _, _, rfl, (unhide hI).right hr1 hr2 (unhide hrt) (unhide hmh) (unhide hp), h5⟩
          case measure => simp only [intOf]; rw [unhide hsz, unhide hszr]; omega

end
end Go.Proofs.Ybulkbtqm

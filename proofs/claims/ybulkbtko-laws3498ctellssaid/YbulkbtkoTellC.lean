import Derived.Test.YbulkbtkoTellB
import Derived.WalkSmall
import Derived.Maps.AppendAt
namespace Go.Proofs.Ybulkbtko
open Go.RowKit Go.Maps

theorem ownsRow_of_rowIs {w : World} {sb t base : Nat} {f : Nat → Value} (h : w.rowIs sb 59 (t * 2) f) (hb : base ≤ sb) (ht : t ≤ 1024) :
    w.ownsRow base 59 2 (.slice (some ⟨sb, 0, none⟩) t t) t ((List.range (t * 2)).map f) := by
  obtain ⟨c, hh, hn, hc⟩ := h
  refine ⟨by simp, .inr ⟨sb, t, c, rfl, hb, hh, Nat.le_refl _, by unfold maxLen; omega, hn, ?_⟩⟩
  rw [List.take_of_length_le (by simp; omega)]
  apply List.ext_getElem?
  intro i
  by_cases hi : i < t * 2
  · have := hc i hi
    rw [List.getElem?_map, List.getElem?_range hi]
    simpa using this
  · rw [List.getElem?_eq_none (by simp; omega), List.getElem?_eq_none (by simp; omega)]

theorem rowIs_of_ownsRow {w : World} {t base : Nat} {f : Nat → Value} {v : Value} {x y : Value} (h : w.ownsRow base 59 2 v (t + 1) ((List.range (t * 2)).map f ++ [x, y])) :
    ∃ g cap f', v = .slice (some ⟨g, 0, none⟩) (t + 1) cap ∧ base ≤ g ∧ t + 1 ≤ cap ∧ w.rowIs g 59 (cap * 2) f' ∧ (∀ i, i < t * 2 → f' i = f i) ∧ f' (t * 2) = x ∧ f' (t * 2 + 1) = y := by
  obtain ⟨_, ⟨_, h0⟩ | ⟨g, cap, cur, rfl, hb, hh, hle, _, hsz, htk⟩⟩ := h
  · omega
  have hat : ∀ i, i < (t + 1) * 2 → cur[i]? = ((List.range (t * 2)).map f ++ [x, y])[i]? := fun i hi => by
    rw [← htk, List.getElem?_take, if_pos hi]; simp
  refine ⟨g, cap, fun i => cur[i]?.getD undef, rfl, hb, hle, ⟨cur, hh, hsz, fun i hi => by simp [hsz, hi]⟩, fun i hi => ?_, ?_, ?_⟩
  · show cur[i]?.getD undef = _
    rw [hat i (by omega), List.getElem?_append_left (by simpa using hi), List.getElem?_map, List.getElem?_range hi]; rfl
  · show cur[t * 2]?.getD undef = _
    rw [hat _ (by omega), List.getElem?_append_right (by simp)]; simp
  · show cur[t * 2 + 1]?.getD undef = _
    rw [hat _ (by omega), List.getElem?_append_right (by simp)]; simp

theorem told2_congr {tn tf : List Int} {f f' : Nat → Value} {t : Nat} (h : Told2 tn tf f t) (e : ∀ i, i < t * 2 → f' i = f i) : Told2 tn tf f' t := fun i hi => by
  rw [e _ (by omega), e _ (by omega)]; exact h i hi

theorem two_one (a b : Int) : ∀ u ∈ [Value.int .i64 a, Value.int .i64 b], u.oneCell' = true := by
  intro u hu
  simp at hu
  rcases hu with rfl | rfl <;> rfl

theorem crash_no (nb mb : Nat) (r v j : Int) (f : Bool) (w : World) (hl : (Instr.lookup 43 (.map (some mb)) (.int .i64 j) true).run Yba.prog w = .ok (.tuple #[.int .i64 v, .bool f]) w)
    (c0 : w.cell? ⟨nb, 782, none⟩ = some (.map (some mb))) (c1 : w.cell? ⟨nb, 787, none⟩ = some (.int .i64 r)) (hr : recentB f r v = true) :
    Calls Yba.prog 15 #[.pointer (some ⟨nb, 0, none⟩), .int .i64 j] w fun e w' => e = .returned (.bool false) ∧ w' = w := by
  have H := heard_any nb mb r v j f w hl c0 c1
  rw [hr] at H
  have H := hide H
  clear hl hr
  go_enter Yba.func15, Yba.ntmps15
  go_wp2_with fail
  refine (unhide H).mono ?_
  rintro e w' ⟨rfl, rfl⟩
  go_wp2_with fail
  go_ret
  exact ⟨rfl, rfl⟩

set_option maxHeartbeats 400000 in
theorem crash_yes (nb mb sb t m : Nat) (r v j : Int) (f : Bool) (row : Nat → Value) (D : DataW Unit) (w : World) (B : Nat) (hl : (Instr.lookup 43 (.map (some mb)) (.int .i64 j) true).run Yba.prog w = .ok (.tuple #[.int .i64 v, .bool f]) w)
    (hown : w.ownsMap Yba.prog 3 (plainElem Yba.prog 3) mb m D) (hm : m ≤ 1024) (ht : t ≤ 1024) (wj : (Lit.int .i64 j).wf = true) (wr' : (Lit.int .i64 r).wf = true)
    (hrow : w.rowIs sb 59 (t * 2) row) (c2 : w.cell? ⟨nb, 779, none⟩ = some (.slice (some ⟨sb, 0, none⟩) t t)) (f2 : w.frozen? ⟨nb, 779, none⟩ = false)
    (c0 : w.cell? ⟨nb, 782, none⟩ = some (.map (some mb))) (c1 : w.cell? ⟨nb, 787, none⟩ = some (.int .i64 r)) (hr : recentB f r v = false) (b1 : B ≤ mb) (b2 : mb < sb) (b3 : sb < nb) :
    Calls Yba.prog 15 #[.pointer (some ⟨nb, 0, none⟩), .int .i64 j] w fun e w' => e = .returned (.bool true) ∧ ∃ g cap row', w'.ownsMap Yba.prog 3 (plainElem Yba.prog 3) mb (m + 1) (D.put (.int .i64 j) (.lit (.int .i64 r))) ∧
      w'.cell? ⟨nb, 779, none⟩ = some (.slice (some ⟨g, 0, none⟩) (t + 1) cap) ∧ t + 1 ≤ cap ∧ w'.rowIs g 59 (cap * 2) row' ∧ (∀ i, i < t * 2 → row' i = row i) ∧ row' (t * 2) = .int .i64 j ∧ row' (t * 2 + 1) = .int .i64 8 ∧
      w'.cell? ⟨nb, 782, none⟩ = some (.map (some mb)) ∧ w'.cell? ⟨nb, 787, none⟩ = some (.int .i64 r) ∧ Below B w w' := by
  have H := heard_any nb mb r v j f w hl c0 c1
  rw [hr] at H
  have H := hide H
  clear hl hr
  obtain ⟨w1, hput, hown1, hg1⟩ := hown.drew.update law3 Yba.underlying43 (by unfold maxLen; omega) (keyOf_int_mk Yba.underlying3 wj) (plainElem_int Yba.underlying3 wr')
  have hlt : nb < w.heap.size := World.block_lt_of_cell? _ _ c2
  have k0 := hg1.cell (a := ⟨nb, 782, none⟩) c0 (by simp; omega)
  have k1 := hg1.cell (a := ⟨nb, 787, none⟩) c1 (by simp; omega)
  have k2 := hg1.cell (a := ⟨nb, 779, none⟩) c2 (by simp; omega)
  have e2 : w1.frozen? ⟨nb, 779, none⟩ = false := (World.frozen?_of_block (hg1.block nb hlt (by simp; omega))).trans f2
  have hrow1 : w1.rowIs sb 59 (t * 2) row := hrow.of_block (hg1.block sb (by show sb < w.heap.size; omega) (by simp; omega))
  have hB1 : Below B w w1 := ((Below.refl B w).drew).grown hg1 (by show B ≤ w.heap.size; omega) (fun k hk => by cases hk; exact b1)
  have hsz1 : w.heap.size ≤ w1.heap.size := hg1.size
  have hor := ownsRow_of_rowIs (base := B) hrow1 (by omega) ht
  obtain ⟨i0, hi, hz0, hz1, hz2⟩ := info_parts info59
  go_enter Yba.func15, Yba.ntmps15
  go_wp2_with fail
  refine (unhide H).mono ?_
  rintro e w' ⟨rfl, rfl⟩
  go_wp2_with fail
  go_region
  all_goals go_wp2_with (first
    | (at_builtin; refine wpList_append_own_at _ rfl _ _ 42 rfl B 59 i0 (.agg #[.int .i64 0, .int .i64 0]) 2 16 Yba.underlying42 hi hz0 hz1 hz2 rfl (by decide) (.slice (some ⟨sb, 0, none⟩) t t) _ _ rfl (hor.alloc _) ⟨w1.heap.size, 0, none⟩ 1 1 [.int .i64 j, .int .i64 8] rfl rfl (cell_two_new _ _ _ _) (two_one _ _) (by unfold maxLen; omega) (by omega) (by simp; omega) ?_)
    | go_in)
  intro v' w2 hor2 hg2 hnil hloc
  obtain ⟨g, cap, row', rfl, hbg, hcap, hrow2, er, ej, e8⟩ := rowIs_of_ownsRow hor2
  have hg2' : (w1.alloc (.cells #[.int .i64 j, .int .i64 8] 59)).grownBy w2 (some sb) := hg2
  have hlen1 : (w1.alloc (.cells #[.int .i64 j, .int .i64 8] 59)).heap.size = w1.heap.size + 1 := by simp
  have kept : ∀ k, k < w1.heap.size → k ≠ sb → w2.heap[k]? = w1.heap[k]? := fun k hk hne => (hg2'.block k (by omega) (by simp; omega)).trans (Below.heap_alloc w1 _ k hk)
  have p0 : w2.cell? ⟨nb, 782, none⟩ = some (.map (some mb)) := (World.cell?_of_block (kept nb (by omega) (by omega))).trans k0
  have p1 : w2.cell? ⟨nb, 787, none⟩ = some (.int .i64 r) := (World.cell?_of_block (kept nb (by omega) (by omega))).trans k1
  have p2 : w2.cell? ⟨nb, 779, none⟩ = some (.slice (some ⟨sb, 0, none⟩) t t) := (World.cell?_of_block (kept nb (by omega) (by omega))).trans k2
  have p3 : w2.frozen? ⟨nb, 779, none⟩ = false := (World.frozen?_of_block (kept nb (by omega) (by omega))).trans e2
  have hgn : g ≠ nb := by
    rcases hloc with h | h
    · simp [Value.ownBlock] at h; omega
    · simp [Value.ownBlock] at h; omega
  have hown2 : w2.ownsMap Yba.prog 3 (plainElem Yba.prog 3) mb (m + 1) (D.put (.int .i64 j) (.lit (.int .i64 r))) := (hown1.alloc _).kept hg2' (by simp; omega)
  have hB2 : Below B _ w2 := (hB1.alloc (by omega) (.cells #[.int .i64 j, .int .i64 8] 59)).grown hg2' (by simp; omega) (fun k hk => by cases hk; omega)
  clear hg2 hnil hloc hor2
  go_wp2_with fail
  go_ret
  refine ⟨rfl, g, cap, row', hown2.setCell (by simp; omega) _, World.cell?_setCell_same _ _ _ p2, hcap, hrow2.setOther hgn _, er, ej, e8, ?_, ?_, hB2.setCell (by simp; omega) _⟩
  · exact (World.cell?_setCell_other _ _ _ _ (by simp)).trans p0
  · exact (World.cell?_setCell_other _ _ _ _ (by simp)).trans p1

end Go.Proofs.Ybulkbtko

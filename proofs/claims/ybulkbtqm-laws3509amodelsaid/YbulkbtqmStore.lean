import Derived.Test.YbulkbtqmLaws
import Derived.Test.YbulkbtqmBuild
namespace Go.Proofs.Ybulkbtqm
open Go.RowKit
set_option linter.unusedVariables false

/-- The world behind the store's making. -/
abbrev storeW (wB : World) (SB BB n : Nat) : World :=
  ((((wB.alloc (.map #[] 0)).alloc (.cells #[.slice (some ⟨BB, 0, none⟩) (2 * n) (2 * n)] 23)).alloc (.cells #[.int .i64 (2 * (n : Int))] 3)).alloc
    (.cells #[.int .i64 0, .slice (some ⟨SB, 0, none⟩) n n, .slice none 0 0, .map (some wB.heap.size), .int .u64 0, .int .i32 (-1), .slice (some ⟨wB.heap.size + 1, 0, none⟩) 1 1, .slice (some ⟨wB.heap.size + 1 + 1, 0, none⟩) 1 1, .slice none 0 0, .int .i32 0, .int .i64 (2 * (n : Int)), .int .i64 0, .slice none 0 0, .int .u64 0, .slice none 0 0] 55)).alloc (.cells #[.int .i64 0] 3)

theorem storeW_size (wB : World) (SB BB n : Nat) : (storeW wB SB BB n).heap.size = wB.heap.size + 5 := by simp
theorem storeW_below (wB : World) (SB BB n : Nat) : Below wB.heap.size wB (storeW wB SB BB n) :=
  (((((Below.refl _ _).alloc (Nat.le_refl _) _).alloc (by simp) _).alloc (by simp; omega) _).alloc (by simp; omega) _).alloc (by simp; omega) _
theorem storeW_slots (wB : World) (SB BB n : Nat) : (storeW wB SB BB n).cell? ⟨wB.heap.size + 1 + 1 + 1, 1, none⟩ = some (.slice (some ⟨SB, 0, none⟩) n n) := by go_simp
theorem storeW_chunks (wB : World) (SB BB n : Nat) : (storeW wB SB BB n).cell? ⟨wB.heap.size + 1 + 1 + 1, 6, none⟩ = some (.slice (some ⟨wB.heap.size + 1, 0, none⟩) 1 1) := by go_simp
theorem storeW_order (wB : World) (SB BB n : Nat) : (storeW wB SB BB n).cell? ⟨wB.heap.size + 1 + 1 + 1, 5, none⟩ = some (.int .i32 (-1)) := by go_simp
theorem storeW_froz (wB : World) (SB BB n : Nat) : (storeW wB SB BB n).frozen? ⟨wB.heap.size + 1 + 1 + 1, 5, none⟩ = false := by go_simp
theorem storeW_chunk (wB : World) (SB BB n : Nat) : (storeW wB SB BB n).cell? ⟨wB.heap.size + 1, 0, none⟩ = some (.slice (some ⟨BB, 0, none⟩) (2 * n) (2 * n)) := by go_simp
theorem storeW_k (wB : World) (SB BB n : Nat) : (storeW wB SB BB n).rowIs (wB.heap.size + 1 + 1 + 1 + 1) 3 1 (fun _ => .int .i64 ((0 : Nat) : Int)) := by
  have := World.rowIs_alloc ((((wB.alloc (.map #[] 0)).alloc (.cells #[.slice (some ⟨BB, 0, none⟩) (2 * n) (2 * n)] 23)).alloc (.cells #[.int .i64 (2 * (n : Int))] 3)).alloc
    (.cells #[.int .i64 0, .slice (some ⟨SB, 0, none⟩) n n, .slice none 0 0, .map (some wB.heap.size), .int .u64 0, .int .i32 (-1), .slice (some ⟨wB.heap.size + 1, 0, none⟩) 1 1, .slice (some ⟨wB.heap.size + 1 + 1, 0, none⟩) 1 1, .slice none 0 0, .int .i32 0, .int .i64 (2 * (n : Int)), .int .i64 0, .slice none 0 0, .int .u64 0, .slice none 0 0] 55)) #[.int .i64 0] 3 (fun _ => .int .i64 ((0 : Nat) : Int)) (fun i hi => by
      match i, hi with
      | 0, _ => rfl)
  simpa using this

/-- What stands behind the build. -/
structure Stands (w wC : World) (GB stB SB CB BB n : Nat) (ai : Option Addr) (st sh : Nat → Nat) (rm : Nat → Bool) (T : Nat → TD) (t : Int) : Prop where
  mem : Mem wC stB SB CB BB n (2 * n) (gG st) sh rm T
  order : wC.cell? ⟨stB, 5, none⟩ = some (.int .i32 t)
  gs : ∀ i, i < n → wC.cell? ⟨GB, i, none⟩ = some (.int .i64 ((gG st i : Nat) : Int))
  items : Items wC ai n st sh rm
  tree : ∃ f, IsTree T (flF rm) sh f t 0 n
  bel : Below w.heap.size w wC

theorem Two.frozen {w w' : World} {a b : Nat} (h : Two w w' a b) {p : Addr} (h1 : p.block ≠ a) (h2 : p.block ≠ b) : w'.frozen? p = w.frozen? p := World.frozen?_of_block (h.block _ h1 h2)

theorem PRow.later {w w' : World} {B np : Nat} {ap : Option Addr} {ps : Nat → Nat} (h : PRow w B ap np ps) (ht : Below B w w') : PRow w' B ap np ps := by
  rcases h with h | ⟨b, o, rfl, hb, hc⟩
  · exact .inl h
  · exact .inr ⟨b, o, rfl, hb, fun i hi => (ht.cell (p := ⟨b, o + i, none⟩) hb).trans (hc i hi)⟩

theorem cell_far {w : World} {a x : Addr} {v u : Value} (hne : x.block ≠ a.block) (h : w.cell? x = some v) : (w.setCell a u).cell? x = some v := by
  rw [← h]; exact World.cell?_of_block (Below.heap_setCell _ _ _ _ hne)

theorem cell_far2 {w : World} {a x : Addr} {v u : Value} (hne : x ≠ a) (ha : a.spot = none) (hx : x.spot = none) (h : w.cell? x = some v) : (w.setCell a u).cell? x = some v := by
  obtain ⟨b, o, _⟩ := a
  obtain ⟨b2, o2, _⟩ := x
  cases ha; cases hx
  have := World.cell?_setCells_out b [u] o w ⟨b2, o2, none⟩ (fun e _ => by
    have : o2 ≠ o := fun h => hne (by cases e; cases h; rfl)
    show o2 < o ∨ o + 1 ≤ o2
    omega)
  exact this.trans h

theorem stands {w wA wB w2 : World} {n : Nat} {ai : Option Addr} {st sh : Nat → Nat} {rm : Nat → Bool} {f f2 : Nat → Value} {T' : Nat → TD} {t : Int} (hn : n ≤ 600) (hI : Items w ai n st sh rm) (hA : LoopA w wA n n st f) (hB : LoopB wA wB n n (gG st) sh rm f2)
    (hb : Built (storeW wB wA.heap.size (w.heap.size + 1) n) w2 wA.heap.size (wB.heap.size + 1 + 1 + 1 + 1) n 0 n 0 (gG st) sh rm T0 T' t) :
    Stands w (w2.setCell ⟨wB.heap.size + 1 + 1 + 1, 5, none⟩ (.int .i32 t)) w.heap.size (wB.heap.size + 1 + 1 + 1) wA.heap.size (wB.heap.size + 1) (w.heap.size + 1) n ai st sh rm T' t := by
  have s1 := hA.size
  have s2 := hB.sl.lt
  have hAB := below_more hA.bel hB.bel
  have hall : Below w.heap.size w (w2.setCell ⟨wB.heap.size + 1 + 1 + 1, 5, none⟩ (.int .i32 t)) :=
    ((below_more hAB (storeW_below wB wA.heap.size (w.heap.size + 1) n)).trans (hb.two.below (by omega) (by omega))).setCell (p := ⟨wB.heap.size + 1 + 1 + 1, 5, none⟩) (by show w.heap.size ≤ wB.heap.size + 1 + 1 + 1; omega) _
  have key : ∀ (x : Addr) (v : Value), x.block < wA.heap.size → wA.cell? x = some v → (w2.setCell ⟨wB.heap.size + 1 + 1 + 1, 5, none⟩ (.int .i32 t)).cell? x = some v := fun x v hx hv => by
    refine cell_far (by show x.block ≠ wB.heap.size + 1 + 1 + 1; omega) ?_
    rw [hb.two.cell (by omega) (by omega), (storeW_below wB wA.heap.size (w.heap.size + 1) n).cell (by omega)]
    exact cell_stays hB.bel hv
  refine ⟨⟨?_, ?_, ?_, ?_, ?_, ?_, by omega, by unfold maxLen; omega⟩, ?_, ?_, hI.later hall, hb.tree, hall⟩
  · exact cell_far2 (by simp) rfl rfl ((hb.two.cell (p := ⟨wB.heap.size + 1 + 1 + 1, 1, none⟩) (by show wB.heap.size + 1 + 1 + 1 ≠ _; omega) (by show wB.heap.size + 1 + 1 + 1 ≠ _; omega)).trans (storeW_slots _ _ _ _))
  · exact cell_far2 (by simp) rfl rfl ((hb.two.cell (p := ⟨wB.heap.size + 1 + 1 + 1, 6, none⟩) (by show wB.heap.size + 1 + 1 + 1 ≠ _; omega) (by show wB.heap.size + 1 + 1 + 1 ≠ _; omega)).trans (storeW_chunks _ _ _ _))
  · exact cell_far (by show wB.heap.size + 1 ≠ wB.heap.size + 1 + 1 + 1; omega) ((hb.two.cell (p := ⟨wB.heap.size + 1, 0, none⟩) (by show wB.heap.size + 1 ≠ _; omega) (by show wB.heap.size + 1 ≠ _; omega)).trans (storeW_chunk _ _ _ _))
  · exact fun i hi => key _ _ (by show w.heap.size + 1 < _; omega) (owns_cell hA.ch _ _ (keyL_at n i hi).1)
  · exact fun i hi => key _ _ (by show w.heap.size + 1 < _; omega) (owns_cell hA.ch _ _ (keyL_at n i hi).2)
  · exact hb.row.setOther (by show wA.heap.size ≠ wB.heap.size + 1 + 1 + 1; omega) _
  · have h5 : w2.cell? ⟨wB.heap.size + 1 + 1 + 1, 5, none⟩ = some (.int .i32 (-1)) := (hb.two.cell (p := ⟨wB.heap.size + 1 + 1 + 1, 5, none⟩) (by show wB.heap.size + 1 + 1 + 1 ≠ _; omega) (by show wB.heap.size + 1 + 1 + 1 ≠ _; omega)).trans (storeW_order _ _ _ _)
    go_simp
  · intro i hi
    refine key _ _ (by show w.heap.size < _; omega) ?_
    rw [hA.gs.cell hi, if_pos hi]

end Go.Proofs.Ybulkbtqm

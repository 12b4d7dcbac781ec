import Derived.Test.YbulkbtqmMade
namespace Go.Proofs.Ybulkbtqm
open Go.RowKit
set_option linter.unusedVariables false

theorem there_of_row {w : World} {b : Nat} {t : TypeId} {n : Nat} {f : Nat → Value} (h : w.rowIs b t n f) (o m : Nat) (hm : o + m ≤ n) : w.there b o m := by
  intro j hj
  refine ⟨?_, h.frozen _⟩
  rw [h.cell (by omega)]; rfl

theorem row_setCells {b : Nat} {t : TypeId} {n : Nat} : ∀ (vs : List Value) (o : Nat) {w : World} {f : Nat → Value}, w.rowIs b t n f → (w.setCells b o vs).rowIs b t n (fun k => if o ≤ k ∧ k < o + vs.length then vs[k - o]?.getD undef else f k)
  | [], o, w, f, h => h.congr fun i hi => by rw [if_neg (by rw [List.length_nil]; omega)]
  | v :: r, o, w, f, h => by
    refine (row_setCells r (o + 1) (h.set o v)).congr fun k hk => ?_
    by_cases c : k = o
    · subst c
      rw [if_neg (by omega), if_pos rfl, if_pos (by simp)]
      simp
    · by_cases c1 : o + 1 ≤ k ∧ k < o + 1 + r.length
      · rw [if_pos c1, if_pos (by simp; omega)]
        rw [show k - o = (k - (o + 1)) + 1 by omega]
        simp
      · rw [if_neg c1, if_neg c, if_neg (by simp; omega)]

def T0 : Nat → TD := fun _ => ⟨-1, -1, 0, 0, 0⟩
def slotList (g i : Nat) (rm : Bool) (sh : Nat) : List Value := idList g ++ [.int .i32 0, .int .i32 ((2 * i : Nat) : Int), .int .i32 2, .int .i32 2, .int .u64 1, .bool rm, .int .u64 sh, .int .u64 0, .int .i32 (-1), .int .i32 (-1), .int .i64 0, .int .i64 0, .int .u64 0, .int .i32 (-1), .int .u32 0, .bool true]
theorem slotList_len (g i : Nat) (rm : Bool) (sh : Nat) : (slotList g i rm sh).length = 36 := rfl
theorem slotList_at (g sh : Nat → Nat) (rm : Nat → Bool) (i j : Nat) (hj : j < 36) : (slotList (g i) i (rm i) (sh i))[j]? = some (slotCell g sh rm T0 i j) := by
  match j, hj with
  | 0, _ => rfl
  | 1, _ => rfl
  | 2, _ => rfl
  | 3, _ => rfl
  | 4, _ => rfl
  | 5, _ => rfl
  | 6, _ => rfl
  | 7, _ => rfl
  | 8, _ => rfl
  | 9, _ => rfl
  | 10, _ => rfl
  | 11, _ => rfl
  | 12, _ => rfl
  | 13, _ => rfl
  | 14, _ => rfl
  | 15, _ => rfl
  | 16, _ => rfl
  | 17, _ => rfl
  | 18, _ => rfl
  | 19, _ => rfl
  | 20, _ => rfl
  | 21, _ => rfl
  | 22, _ => rfl
  | 23, _ => rfl
  | 24, _ => rfl
  | 25, _ => rfl
  | 26, _ => rfl
  | 27, _ => rfl
  | 28, _ => rfl
  | 29, _ => rfl
  | 30, _ => rfl
  | 31, _ => rfl
  | 32, _ => rfl
  | 33, _ => rfl
  | 34, _ => rfl
  | 35, _ => rfl
  | k + 36, hk => exact absurd hk (by omega)

theorem info40 : (Yba.prog.info? 40).map (·.size) = some 36 := by kernel_rfl
theorem slot_one (g i : Nat) (rm : Bool) (sh : Nat) : (slotList g i rm sh).toArray.all (·.oneCell') = true := by
  simp [slotList, idList, Value.oneCell']

theorem build40 (g i : Nat) (rm : Bool) (sh : Nat) (i2 : Int) (hi2 : i2 = ((2 * i : Nat) : Int)) (w : World) :
    (Instr.build 40 #[(0, .agg (idArr g)), (1, .agg #[.int .i32 0, .int .i32 i2, .int .i32 2, .int .i32 2, .int .u64 1, .bool rm]), (2, .int .u64 sh), (4, .int .i32 (-1)), (5, .int .i32 (-1)), (7, .int .i32 (-1)), (9, .bool true)]).run Yba.prog w = .ok (.agg (slotList g i rm sh).toArray) w := by
  subst hi2
  have h : Yba.prog.built 40 [(0, .agg (idArr g)), (1, .agg #[.int .i32 0, .int .i32 ((2 * i : Nat) : Int), .int .i32 2, .int .i32 2, .int .u64 1, .bool rm]), (2, .int .u64 sh), (4, .int .i32 (-1)), (5, .int .i32 (-1)), (7, .int .i32 (-1)), (9, .bool true)] = some (slotList g i rm sh).toArray := by kernel_rfl
  exact run_build w 40 _ _ h

/-- What the second loop leaves. -/
structure LoopB (wA wr : World) (n i : Nat) (g sh : Nat → Nat) (rm : Nat → Bool) (f : Nat → Value) : Prop where
  sl : wr.rowIs wA.heap.size 40 (n * 36) (fun k => if k < i * 36 then slotF g sh rm T0 k else f k)
  bel : Below wA.heap.size wA wr

theorem LoopB.start (w : World) (n : Nat) (c : Array Value) (h : c.size = n * 36) (g sh : Nat → Nat) (rm : Nat → Bool) : LoopB w (w.alloc (.cells c 40)) n 0 g sh rm (fun k => c[k]?.getD undef) :=
  ⟨(row_new w c 40 _ h).congr fun i _ => by simp, (Below.refl _ _).alloc (Nat.le_refl _) _⟩

theorem LoopB.step {wA wr w1 : World} {n i : Nat} {g sh : Nat → Nat} {rm : Nat → Bool} {f : Nat → Value} (h : LoopB wA wr n i g sh rm f) (hi : i < n) (hB : Below wr.heap.size wr w1) :
    LoopB wA (w1.setCells wA.heap.size (i * 36) (slotList (g i) i (rm i) (sh i))) n (i + 1) g sh rm f := by
  refine ⟨(row_setCells _ (i * 36) (h.sl.of_block (hB.block _ h.sl.lt))).congr fun k hk => ?_, below_setCells _ (Nat.le_refl _) _ _ (below_more h.bel hB)⟩
  rw [slotList_len]
  by_cases c : i * 36 ≤ k ∧ k < i * 36 + 36
  · rw [if_pos c, if_pos (by omega), slotList_at _ _ _ _ _ (by omega)]
    unfold slotF
    rw [show k / 36 = i by omega, show k % 36 = k - i * 36 by omega]
    rfl
  · rw [if_neg c]
    by_cases c1 : k < i * 36
    · rw [if_pos c1, if_pos (by omega)]
    · rw [if_neg c1, if_neg (by omega)]

end Go.Proofs.Ybulkbtqm

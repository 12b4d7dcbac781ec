import Derived.Test.YbulkbtqmEq
namespace Go.Proofs.Ybulkbtqm
open Go.RowKit
set_option linter.unusedVariables false

theorem gG_mono (st : Nat → Nat) (i j : Nat) (h : i ≤ j) : gG st i ≤ gG st j := by
  have := gOf_mono st (i + 1) (j - i)
  rw [show i + 1 + (j - i) = j + 1 by omega] at this
  exact this

theorem acc_put {w : World} {b : Nat} {f : Nat → Value} (h : w.rowIs b 37 3 f) (A V X : Nat) : (w.setCells b 0 [.int .i64 (A : Int), .int .i64 (V : Int), .int .u64 (X : Int)]).rowIs b 37 3 (accF A V X) := by
  refine (row_setCells _ 0 h).congr fun k hk => ?_
  match k, hk with
  | 0, _ => rfl
  | 1, _ => rfl
  | 2, _ => rfl

theorem acc_one (A V X : Int) : (#[.int .i64 A, .int .i64 V, .int .u64 X] : Array Value).all (·.oneCell') = true := by simp [Value.oneCell']

theorem acc_new (w : World) : (w.alloc (.cells #[.int .i64 0, .int .i64 0, .int .u64 0] 37)).rowIs w.heap.size 37 3 (accF 0 0 0) :=
  World.rowIs_alloc _ _ 37 _ (fun i hi => by
      match i, hi with
      | 0, _ => rfl
      | 1, _ => rfl
      | 2, _ => rfl)

/-- What a statement 'x := s.upTo(..)' leaves. -/
def Got (wF wx : World) (rb A V X : Nat) : Prop := wx.rowIs rb 37 3 (accF A V X) ∧ Below wF.heap.size wF wx ∧ wF.heap.size ≤ rb

theorem got_call_first {wF w1 : World} (hB : Below wF.heap.size wF w1) (A V X : Nat) :
    Got wF ((w1.alloc (.cells #[.int .i64 0, .int .i64 0, .int .u64 0] 37)).setCells w1.heap.size 0 [.int .i64 (A : Int), .int .i64 (V : Int), .int .u64 (X : Int)]) w1.heap.size A V X :=
  ⟨acc_put (acc_new w1) A V X, below_setCells _ hB.size _ _ (hB.alloc hB.size _), hB.size⟩

theorem got_alloc_first {wF w1 : World} (hB : Below (wF.heap.size + 1) (wF.alloc (.cells #[.int .i64 0, .int .i64 0, .int .u64 0] 37)) w1) (A V X : Nat) :
    Got wF (w1.setCells wF.heap.size 0 [.int .i64 (A : Int), .int .i64 (V : Int), .int .u64 (X : Int)]) wF.heap.size A V X :=
  ⟨acc_put ((acc_new wF).of_block (hB.block _ (by omega))) A V X, below_setCells _ (Nat.le_refl _) _ _ (((Below.refl _ _).alloc (Nat.le_refl _) _).trans (hB.mono (by omega))), Nat.le_refl _⟩

theorem got_alloc_drew {wF w1 : World} (hB : Below (wF.heap.size + 1) (wF.drew.alloc (.cells #[.int .i64 0, .int .i64 0, .int .u64 0] 37)) w1) (A V X : Nat) :
    Got wF (w1.setCells wF.heap.size 0 [.int .i64 (A : Int), .int .i64 (V : Int), .int .u64 (X : Int)]) wF.heap.size A V X := by
  obtain ⟨a, b, c⟩ := got_alloc_first (wF := wF.drew) hB A V X
  exact ⟨a, ((Below.refl wF.heap.size wF).drew).trans b, c⟩

theorem guard40 (x y : Operand) (u v : Array Value) (w : World) : (eqGuard .neq 40 x y (.agg u) (.agg v)).run Yba.prog w = .ok () w := by
  have h : Yba.prog.eqGuardType Yba.prog.depth 40 = false := by kernel_rfl
  unfold eqGuard
  go_simp

theorem yields_neq40 {ops : Array Oper} {S : World → Prop} {o : Oper} {a : Act} (hw : Region.wanted o (yielded ops a.tmps) = true) (x y : Operand) (t : TypeId) (hop : o.op = Op.binOp .neq 40 x y t)
    (g sh : Nat → Nat) (rm : Nat → Bool) (T : Nat → TD) (i : Nat) (hx : a.eval x = .agg (slotL g sh rm T i).toArray) (hy : a.eval y = .agg (slotL g sh rm T i).toArray) : YieldsIf Yba.prog ops S o (.bool false) a :=
  .inl ⟨hw, fun w _ => by
    unfold execOp
    simp only [hop, hx, hy, Sem.run_bind, guard40, neq40, Result.andThen_ok]
    rfl⟩

end Go.Proofs.Ybulkbtqm

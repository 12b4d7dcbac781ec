import Derived.Test.YbulkbtkoGreatFmtExp0
import Derived.Laws.StructEq
import Derived.ChangeKeysEq
namespace Go.Proofs.YbulkbtkoGreatFmt
open Go.RowKit
set_option linter.unusedVariables false
set_option linter.unusedSimpArgs false

theorem eqf51 (d c : Nat) (hc : (FloatKind.f64.format.order c c == some Ordering.eq) = true) (w : World) : (Op.equalIn (d + 1) 51 (.float .f64 c) (.float .f64 c)).run Ybaz.prog w = .ok true w := by
  simp [Op.equalIn, run_underlying Ybaz.underlying51]
  exact hc
theorem neq65 (j h : Int) (c : Nat) (hc : (FloatKind.f64.format.order c c == some Ordering.eq) = true) (w : World) : (binOp .neq 65 (.agg #[.int .i64 j, .float .f64 c, .int .i64 h]) (.agg #[.int .i64 j, .float .f64 c, .int .i64 h])).run Ybaz.prog w = .ok (.bool false) w := by
  have hf := fun w => eqf51 9998 c hc w
  go_simp
theorem guard65 (x y : Operand) (u v : Array Value) (w : World) : (eqGuard .neq 65 x y (.agg u) (.agg v)).run Ybaz.prog w = .ok () w := by
  have h : Ybaz.prog.eqGuardType Ybaz.prog.depth 65 = false := by kernel_rfl
  unfold eqGuard
  go_simp
theorem guard45 (x y : Operand) (u v : Array Value) (w : World) : (eqGuard .eql 45 x y (.agg u) (.agg v)).run Ybaz.prog w = .ok () w := by
  have h : Ybaz.prog.eqGuardType Ybaz.prog.depth 45 = false := by kernel_rfl
  unfold eqGuard
  go_simp

theorem eq3 (d : Nat) (x : Int) (w : World) : (Op.equalIn (d + 1) 3 (.int .i64 x) (.int .i64 x)).run Ybaz.prog w = .ok true w := by
  rw [run_equalIn_int w d 3 .i64 .i64 x x Ybaz.underlying3]; simp
theorem part3 (A : Array Value) (i : Nat) (v : Value) (h : A[i]? = some v) (w : World) : (part 3 A i).run Ybaz.prog w = .ok v w := by
  unfold part
  simp only [Sem.run_bind]
  have : (isAgg 3).run Ybaz.prog w = .ok false w := by go_simp
  rw [this]
  simp [h]
theorem items_true {P : Program} {d : Nat} {e : TypeId} {c : Nat} {xs : Array Value} {w : World} : ∀ is : List Nat, (∀ i ∈ is, ∃ a, (part e xs (i * c)).run P w = .ok a w ∧ (Op.equalIn d e a a).run P w = .ok true w) → (Op.eqItems d e c xs xs is).run P w = .ok true w
  | [], _ => by simp [Op.eqItems]
  | i :: is, h => by
    obtain ⟨a, h1, h2⟩ := h i (by simp)
    simp only [Op.eqItems, Sem.run_bind, h1, h2, Result.andThen_ok, Bool.not_true, Bool.false_eq_true, if_false]
    exact items_true is fun j hj => h j (by simp [hj])
theorem cells3 : Ybaz.prog.cellsOf 3 = 1 := by kernel_rfl
theorem cells44 : Ybaz.prog.cellsOf 44 = 16 := by kernel_rfl
theorem has3 : ∃ i, Ybaz.prog.info? 3 = some i := by
  have h : (Ybaz.prog.info? 3).isSome = true := by kernel_rfl
  exact Option.isSome_iff_exists.1 h
theorem has44 : ∃ i, Ybaz.prog.info? 44 = some i := by
  have h : (Ybaz.prog.info? 44).isSome = true := by kernel_rfl
  exact Option.isSome_iff_exists.1 h
theorem eq44 (d : Nat) (A : Array Value) (hA : ∀ i, i < 16 → ∃ x, A[i]? = some (.int .i64 x)) (w : World) : (Op.equalIn (d + 1 + 1) 44 (.agg A) (.agg A)).run Ybaz.prog w = .ok true w := by
  obtain ⟨i3, hi3⟩ := has3
  rw [run_equalIn_array w (d + 1) A A Ybaz.underlying44 hi3, cells3]
  refine items_true _ fun i hi => ?_
  obtain ⟨x, hx⟩ := hA i (by simpa using hi)
  exact ⟨_, part3 A (i * 1) _ (by rw [Nat.mul_one]; exact hx) w, eq3 d x w⟩
theorem part44 (A : Array Value) (i : Nat) (w : World) : (part 44 A i).run Ybaz.prog w = .ok (.agg (A.extract i (i + 16))) w := by
  unfold part
  simp only [Sem.run_bind]
  have h1 : (isAgg 44).run Ybaz.prog w = .ok true w := by go_simp
  have h2 : (sizeOf 44).run Ybaz.prog w = .ok 16 w := by go_simp
  rw [h1]
  simp [h2]
theorem eq45 (d : Nat) (A : Array Value) (hA : ∀ i, i < 256 → ∃ x, A[i]? = some (.int .i64 x)) (w : World) : (Op.equalIn (d + 1 + 1 + 1) 45 (.agg A) (.agg A)).run Ybaz.prog w = .ok true w := by
  obtain ⟨i44, hi44⟩ := has44
  rw [run_equalIn_array w (d + 1 + 1) A A Ybaz.underlying45 hi44, cells44]
  refine items_true _ fun i hi => ?_
  have hi' : i < 16 := by simpa using hi
  refine ⟨_, part44 A (i * 16) w, eq44 d _ (fun j hj => ?_) w⟩
  obtain ⟨x, hx⟩ := hA (i * 16 + j) (by omega)
  have hlt : i * 16 + j < A.size := by
    rcases Nat.lt_or_ge (i * 16 + j) A.size with h | h
    · exact h
    · rw [Array.getElem?_eq_none h] at hx; cases hx
  refine ⟨x, ?_⟩
  rw [Array.getElem?_extract, if_pos (by omega)]
  exact hx
theorem eqD (D : Nat) (hD : ∃ d, D = d + 1 + 1 + 1) (A : Array Value) (hA : ∀ i, i < 256 → ∃ x, A[i]? = some (.int .i64 x)) (w : World) : (Op.equalIn D 45 (.agg A) (.agg A)).run Ybaz.prog w = .ok true w := by
  obtain ⟨d, rfl⟩ := hD
  exact eq45 d A hA w
theorem eql45 (T : Nat → Int) (w : World) : (binOp .eql 45 (.agg (tabL T).toArray) (.agg (tabL T).toArray)).run Ybaz.prog w = .ok (.bool true) w := by
  have hA : ∀ i, i < 256 → ∃ x, (tabL T).toArray[i]? = some (.int .i64 x) := fun i hi => ⟨T i, by
    rw [List.getElem?_toArray]
    unfold tabL
    rw [List.getElem?_map, List.getElem?_range hi]
    rfl⟩
  generalize (tabL T).toArray = A at hA
  rw [run_eql_struct, eqD 10000 ⟨9997, rfl⟩ A hA w]
  rfl

end Go.Proofs.YbulkbtkoGreatFmt

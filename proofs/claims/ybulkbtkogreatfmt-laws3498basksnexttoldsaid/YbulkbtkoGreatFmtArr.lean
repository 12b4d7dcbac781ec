import Derived.Test.YbulkbtkoGreatFmtTab
namespace Go.Proofs.YbulkbtkoGreatFmt
open Go.RowKit
set_option linter.unusedVariables false
set_option linter.unusedSimpArgs false

/-- A new node's struct: six maps, the self number, the ids, the cost function. -/
@[irreducible] noncomputable def ndArr (s : Int) (ids cost : Value) (m0 m1 m2 m3 m4 m5 : Nat) : Array Value :=
  (Ybaz.prog.built 63 [(0, .int .i64 s), (1, ids), (2, cost), (23, .int .i64 s), (5, .map (some m0)), (12, .map (some m1)), (17, .map (some m2)), (18, .map (some m3)), (20, .map (some m4)), (21, .map (some m5))]).getD #[]

theorem build63 (s : Int) (ia : Addr) (N : Nat) (vb m0 m1 m2 m3 m4 m5 : Nat) (w : World) :
    (Instr.build 63 #[(0, .int .i64 s), (1, .slice (some ia) N N), (2, .func (.func 11) #[] #[.pointer (some ⟨vb, 0, none⟩)]), (23, .int .i64 s), (5, .map (some m0)), (12, .map (some m1)), (17, .map (some m2)), (18, .map (some m3)), (20, .map (some m4)), (21, .map (some m5))]).run Ybaz.prog w
      = .ok (.agg (ndArr s (.slice (some ia) N N) (.func (.func 11) #[] #[.pointer (some ⟨vb, 0, none⟩)]) m0 m1 m2 m3 m4 m5)) w := by
  have h : Ybaz.prog.built 63 [(0, .int .i64 s), (1, .slice (some ia) N N), (2, .func (.func 11) #[] #[.pointer (some ⟨vb, 0, none⟩)]), (23, .int .i64 s), (5, .map (some m0)), (12, .map (some m1)), (17, .map (some m2)), (18, .map (some m3)), (20, .map (some m4)), (21, .map (some m5))] = some (ndArr s (.slice (some ia) N N) (.func (.func 11) #[] #[.pointer (some ⟨vb, 0, none⟩)]) m0 m1 m2 m3 m4 m5) := by kernel_rfl
  exact run_build w 63 _ _ h

section
variable (s : Int) (ia : Addr) (N vb m0 m1 m2 m3 m4 m5 : Nat)
noncomputable abbrev ndA : Array Value := ndArr s (.slice (some ia) N N) (.func (.func 11) #[] #[.pointer (some ⟨vb, 0, none⟩)]) m0 m1 m2 m3 m4 m5
theorem nd_size : (ndA s ia N vb m0 m1 m2 m3 m4 m5).size = 790 := by kernel_rfl
theorem nd_tab : (List.range 256).map (fun p => (ndA s ia N vb m0 m1 m2 m3 m4 m5)[3 + p]?) = (List.range 256).map (fun _ => some (.int .i64 0)) := by kernel_rfl
theorem nd_cost : (List.range 256).map (fun p => (ndA s ia N vb m0 m1 m2 m3 m4 m5)[259 + p]?) = (List.range 256).map (fun _ => some (.float .f64 0)) := by kernel_rfl
theorem nd0 : (ndA s ia N vb m0 m1 m2 m3 m4 m5)[0]? = some (.int .i64 s) := by kernel_rfl
theorem nd1 : (ndA s ia N vb m0 m1 m2 m3 m4 m5)[1]? = some (.slice (some ia) N N) := by kernel_rfl
theorem nd2 : (ndA s ia N vb m0 m1 m2 m3 m4 m5)[2]? = some (.func (.func 11) #[] #[.pointer (some ⟨vb, 0, none⟩)]) := by kernel_rfl
theorem nd515 : (ndA s ia N vb m0 m1 m2 m3 m4 m5)[515]? = some (.map (some m0)) := by kernel_rfl
theorem nd516 : (ndA s ia N vb m0 m1 m2 m3 m4 m5)[516]? = some (.slice none 0 0) := by kernel_rfl
theorem nd518 : (ndA s ia N vb m0 m1 m2 m3 m4 m5)[518]? = some (.pointer none) := by kernel_rfl
theorem nd519 : (ndA s ia N vb m0 m1 m2 m3 m4 m5)[519]? = some (.int .i64 0) := by kernel_rfl
theorem nd520 : (ndA s ia N vb m0 m1 m2 m3 m4 m5)[520]? = some (.slice none 0 0) := by kernel_rfl
theorem nd777 : (ndA s ia N vb m0 m1 m2 m3 m4 m5)[777]? = some (.map (some m1)) := by kernel_rfl
theorem nd789 : (ndA s ia N vb m0 m1 m2 m3 m4 m5)[789]? = some (.int .i64 0) := by kernel_rfl

theorem nd_row (w : World) : (w.alloc (.cells (ndA s ia N vb m0 m1 m2 m3 m4 m5) 63)).rowIs w.heap.size 63 790 (ndF (fun _ => 0) (fun _ => 0) 0 (fun k => (ndA s ia N vb m0 m1 m2 m3 m4 m5)[k]?.getD undef)) := by
  refine (row_new w _ 63 790 (nd_size s ia N vb m0 m1 m2 m3 m4 m5)).congr fun k hk => ?_
  unfold ndF
  by_cases c1 : 3 ≤ k ∧ k < 259
  · rw [if_pos c1]
    have h := congrArg (fun l => l[k - 3]?) (nd_tab s ia N vb m0 m1 m2 m3 m4 m5)
    simp only [List.getElem?_map, List.getElem?_range (show k - 3 < 256 by omega), Option.map_some] at h
    rw [show 3 + (k - 3) = k by omega] at h
    have h' := Option.some.inj h
    rw [h']
    rfl
  · rw [if_neg c1]
    by_cases c2 : 259 ≤ k ∧ k < 515
    · rw [if_pos c2]
      have h := congrArg (fun l => l[k - 259]?) (nd_cost s ia N vb m0 m1 m2 m3 m4 m5)
      simp only [List.getElem?_map, List.getElem?_range (show k - 259 < 256 by omega), Option.map_some] at h
      rw [show 259 + (k - 259) = k by omega] at h
      have h' := Option.some.inj h
      rw [h']
      rfl
    · rw [if_neg c2]
      by_cases c3 : k = 789
      · rw [if_pos c3, c3, nd789]
        rfl
      · rw [if_neg c3]
end

end Go.Proofs.YbulkbtkoGreatFmt

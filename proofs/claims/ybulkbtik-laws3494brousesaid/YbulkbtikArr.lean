import Derived.Test.YbulkbtikResume
import Derived.Deep.DeepAppendRoom
import Derived.Lib.JoinLaws
namespace Go.Proofs.Ybulkbtik
open Go.Conc Go.RowKit Go.MuLone
set_option linter.unusedVariables false
set_option linter.unusedSimpArgs false

@[irreducible] noncomputable def cfgArr (ve vw : Nat) (he hw : Bool) : Array Value := (Yba.prog.built 79 [(0, .float .f64 ve), (1, .bool he), (6, .float .f64 vw), (7, .bool hw)]).getD #[]
@[irreducible] noncomputable def runArr (ve vw vg : Nat) (he hw : Bool) : Array Value := (Yba.prog.built 106 [(0, .agg (cfgArr ve vw he hw)), (16, .float .f64 vg)]).getD #[]
@[irreducible] noncomputable def boxArr (cb : Nat) : Array Value := (Yba.prog.built 42 [(4, .chan (some cb))]).getD #[]
@[irreducible] noncomputable def wkArr (rb cb : Nat) : Array Value := (Yba.prog.built 57 [(2, .pointer (some ⟨rb, 0, none⟩)), (0, .agg (boxArr cb))]).getD #[]

theorem build79 (ve vw : Nat) (he hw : Bool) (w : World) : (Instr.build 79 #[(0, .float .f64 ve), (1, .bool he), (6, .float .f64 vw), (7, .bool hw)]).run Yba.prog w = .ok (.agg (cfgArr ve vw he hw)) w := by
  have h : Yba.prog.built 79 [(0, .float .f64 ve), (1, .bool he), (6, .float .f64 vw), (7, .bool hw)] = some (cfgArr ve vw he hw) := by kernel_rfl
  exact run_build w 79 _ _ h
theorem build106 (ve vw vg : Nat) (he hw : Bool) (w : World) : (Instr.build 106 #[(0, .agg (cfgArr ve vw he hw)), (16, .float .f64 vg)]).run Yba.prog w = .ok (.agg (runArr ve vw vg he hw)) w := by
  have h : Yba.prog.built 106 [(0, .agg (cfgArr ve vw he hw)), (16, .float .f64 vg)] = some (runArr ve vw vg he hw) := by kernel_rfl
  exact run_build w 106 _ _ h
theorem build42 (cb : Nat) (w : World) : (Instr.build 42 #[(4, .chan (some cb))]).run Yba.prog w = .ok (.agg (boxArr cb)) w := by
  have h : Yba.prog.built 42 [(4, .chan (some cb))] = some (boxArr cb) := by kernel_rfl
  exact run_build w 42 _ _ h
theorem build57 (rb cb : Nat) (w : World) : (Instr.build 57 #[(2, .pointer (some ⟨rb, 0, none⟩)), (0, .agg (boxArr cb))]).run Yba.prog w = .ok (.agg (wkArr rb cb)) w := by
  have h : Yba.prog.built 57 [(2, .pointer (some ⟨rb, 0, none⟩)), (0, .agg (boxArr cb))] = some (wkArr rb cb) := by kernel_rfl
  exact run_build w 57 _ _ h
theorem build67v (v : Nat) (w : World) : (Instr.build 67 #[(0, .float .f64 v)]).run Yba.prog w = .ok (.agg (keyOf v)) w := by
  have h : Yba.prog.built 67 [(0, .float .f64 v)] = some (keyOf v) := by kernel_rfl
  exact run_build w 67 _ _ h
theorem build69v (v : Nat) (w : World) : (Instr.build 69 #[(1, .agg (keyL v).toArray)]).run Yba.prog w = .ok (.agg (sendL v).toArray) w := by
  have h : Yba.prog.built 69 [(1, .agg (keyL v).toArray)] = some (sendL v).toArray := by kernel_rfl
  exact run_build w 69 _ _ h

@[irreducible] noncomputable def runF (ve vw vg : Nat) (he hw : Bool) : Nat → Value := fun i => (runArr ve vw vg he hw)[i]?.getD undef
@[irreducible] noncomputable def wkF (rb cb : Nat) : Nat → Value := fun i => (wkArr rb cb)[i]?.getD undef
theorem run_size (ve vw vg : Nat) (he hw : Bool) : (runArr ve vw vg he hw).size = 307 := by kernel_rfl
theorem wk_size (rb cb : Nat) : (wkArr rb cb).size = 279 := by kernel_rfl

theorem row_new (w : World) (c : Array Value) (t : TypeId) (n : Nat) (h : c.size = n) : (w.alloc (.cells c t)).rowIs w.heap.size t n (fun k => c[k]?.getD undef) := by
  subst h
  exact World.rowIs_alloc w c t _ fun i hi => by simp [hi]

theorem runF_def (ve vw vg : Nat) (he hw : Bool) : runF ve vw vg he hw = fun i => (runArr ve vw vg he hw)[i]?.getD undef := by unfold runF; rfl
theorem wkF_def (rb cb : Nat) : wkF rb cb = fun i => (wkArr rb cb)[i]?.getD undef := by unfold wkF; rfl

theorem run_cfg (ve vw vg : Nat) (he hw : Bool) : Cfg (runF ve vw vg he hw) ve vw vg he hw where
  g0 := by kernel_rfl
  g1 := by kernel_rfl
  g6 := by kernel_rfl
  g7 := by kernel_rfl
  g278 := by kernel_rfl
  g289 := by kernel_rfl
theorem run143 (ve vw vg : Nat) (he hw : Bool) : runF ve vw vg he hw 143 = .int .i64 0 := by kernel_rfl
theorem run14 (ve vw vg : Nat) (he hw : Bool) : runF ve vw vg he hw 14 = .slice none 0 0 := by kernel_rfl
theorem wk0 (rb cb : Nat) : wkF rb cb 0 = .int .i32 0 := by kernel_rfl
theorem wk3 (rb cb : Nat) : wkF rb cb 3 = .bool false := by kernel_rfl
theorem wk4 (rb cb : Nat) : wkF rb cb 4 = .int .u32 0 := by kernel_rfl
theorem wk5 (rb cb : Nat) : wkF rb cb 5 = .chan (some cb) := by kernel_rfl
theorem wk134 (rb cb : Nat) : wkF rb cb 134 = .pointer (some ⟨rb, 0, none⟩) := by kernel_rfl
theorem wk135 (rb cb : Nat) : wkF rb cb 135 = .slice none 0 0 := by kernel_rfl
theorem wk136 (rb cb : Nat) : wkF rb cb 136 = .slice none 0 0 := by kernel_rfl
theorem wk137 (rb cb : Nat) : wkF rb cb 137 = .slice none 0 0 := by kernel_rfl
theorem wk138 (rb cb : Nat) : wkF rb cb 138 = .int .i64 0 := by kernel_rfl

theorem inf24 : (Yba.prog.info? 24).map (fun i => (i.zero, i.size, i.bytes)) = some (some (.pointer none), 1, 8) := by kernel_rfl
theorem made84 (n : Nat) (hn : n ≤ 1024) : ∃ c : Array Value, c.size = n ∧ ∀ w : World, (Instr.makeSlice 84 (.int .i64 (n : Int)) (.int .i64 (n : Int))).run Yba.prog w = .ok (.slice (some ⟨w.heap.size, 0, none⟩) n n) (w.alloc (.cells c 24)) :=
  ⟨madeCells #[.pointer none] n, size_madeCells _ _, fun w => run_make_row' 84 24 (.pointer none) 8 Yba.underlying84 inf24 rfl .i64 .i64 n (by omega) (by omega) w⟩
theorem mkch (w : World) : (Instr.makeChan 40 (.int .i64 1)).run Yba.prog w = .ok (.chan (some w.heap.size)) (w.alloc (.chan 1 #[] false 0 0 false)) := by
  have h : (Yba.prog.info? 29).map (·.bytes) = some 0 := by kernel_rfl
  obtain ⟨i, hi, hb⟩ := Option.map_eq_some_iff.1 h
  simpa using run_makeChan (P := Yba.prog) (w := w) Yba.underlying40 hi .i64 1 (by omega) (by rw [hb]; omega)

end Go.Proofs.Ybulkbtik

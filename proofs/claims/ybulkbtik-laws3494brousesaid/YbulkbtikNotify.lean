import Derived.Test.YbulkbtikLeaf
namespace Go.Proofs.Ybulkbtik
open Go.Conc Go.RowKit

theorem bd29 (w : World) : (Instr.build 29 #[]).run Yba.prog w = .ok (.agg #[]) w := run_build w 29 #[] #[] (by kernel_rfl)

set_option maxRecDepth 100000 in
theorem notify_room (b o c s r : Nat) (tm : Bool) (w : World) (h5 : w.cell? ⟨b, o + 5, none⟩ = some (.chan (some c))) (hc : w.heap[c]? = some (.chan 1 #[] false s r tm)) :
    Calls Yba.prog 29 #[.pointer (some ⟨b, o, none⟩)] w fun e w' => e = .returned (.tuple #[]) ∧ w' = w.setChan c 1 #[.agg #[]] false (s + 1) r tm := by
  refine calls_of_loneTo fun cs => ?_
  have e : Frame.enter Yba.prog 29 #[.pointer (some ⟨b, o, none⟩)] .normal = (base 29).at ⟨#[.pointer (some ⟨b, o, none⟩), undef, undef, undef, undef, undef, undef, undef, undef, undef], []⟩ [.code (Yba.f29.body.getD .skip)] := by
    simp [Frame.enter, Frame.at, Yba.func29, base, Yba.f29]
  rw [e]
  have hbd := bd29
  refine LoneTo.goes (n := 50) ?_
  simp only [Yba.f29, Option.getD_some]
  s_c stepG_seq
  s_c stepG_seq
  s_reg
  s_op
  s_op
  s_op
  s_op
  s_c stepG_region_end
  s_reg
  s_op
  s_c stepG_region_end
  s_c stepG_seq
  s_reg
  s_stop
  refine LoneTo.step (step_lone_select_send_room (c := c) (cap := 1) (buf := #[]) (s := s) (r := r) (tm := tm) (stepG_comm (cases := #[scase c (.agg #[]) (.agg #[])]) (blocking := false) (shape := .select) (w' := w) rfl rfl (by decide) (by simp [go_sem, execOp, scase, Act.eval])) hc (by simp)) ?_
  rw [Frame.finish_at]
  walk_nrm
  refine LoneTo.goes (n := 30) ?_
  s_op
  s_op
  s_c stepG_region_end
  s_c stepG_block
  s_cond true
  s_c stepG_skip
  s_c stepG_inBlock
  s_c stepG_end
  s_stop
  exact LoneTo.done ⟨.returned (.tuple #[]), _, rfl, ⟨rfl, rfl⟩, rfl, rfl, rfl, rfl, _, Yba.func29, by simp [results, Yba.f29, Frame.at]⟩
end Go.Proofs.Ybulkbtik

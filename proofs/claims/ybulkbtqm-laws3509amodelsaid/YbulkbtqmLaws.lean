import Derived.Test.YbulkbtqmMade2
namespace Go.Proofs.Ybulkbtqm
open Go.RowKit
set_option linter.unusedVariables false

theorem yields_build7 {P : Program} {ops : Array Oper} {S : World → Prop} {o : Oper} {a : Act} (hw : Region.wanted o (yielded ops a.tmps) = true) (t : TypeId) (i1 i2 i3 i4 i5 i6 i7 : Nat) (x1 x2 x3 x4 x5 x6 x7 : Operand)
    (hop : o.op = Op.build t #[(i1, x1), (i2, x2), (i3, x3), (i4, x4), (i5, x5), (i6, x6), (i7, x7)]) (v1 v2 v3 v4 v5 v6 v7 : Value) (h1 : a.eval x1 = v1) (h2 : a.eval x2 = v2) (h3 : a.eval x3 = v3) (h4 : a.eval x4 = v4) (h5 : a.eval x5 = v5) (h6 : a.eval x6 = v6) (h7 : a.eval x7 = v7)
    (cs : Array Value) (hrun : ∀ w, (Instr.build t #[(i1, v1), (i2, v2), (i3, v3), (i4, v4), (i5, v5), (i6, v6), (i7, v7)]).run P w = .ok (.agg cs) w) : YieldsIf P ops S o (.agg cs) a :=
  .inl ⟨hw, fun w _ => by
    unfold execOp
    simp only [hop, List.map_toArray, List.map_cons, List.map_nil, h1, h2, h3, h4, h5, h6, h7, Sem.run_bind, hrun, Result.andThen_ok]
    rfl⟩

theorem cell_setCells_far {w : World} {b o : Nat} {vs : List Value} {x : Addr} {v : Value} (hne : x.block ≠ b) (h : w.cell? x = some v) : (w.setCells b o vs).cell? x = some v :=
  (World.cell?_setCells_out b vs o w x (fun e => absurd e hne)).trans h

end Go.Proofs.Ybulkbtqm

import Derived.Test.YbulkbtkoWalkB
import Derived.Laws.Tables
import Derived.RegionTactic
namespace Go.Proofs.Ybulkbtko
open Go.RowKit Go.Maps

theorem law3 : Keyed Yba.prog 3 := int_keyed Yba.underlying3
theorem zero3 (w : World) : (zeroValue 3).run Yba.prog w = .ok (.int .i64 0) w := by kernel_rfl
theorem zero27 (w : World) : (zeroValue 27).run Yba.prog w = .ok (.int .u64 0) w := by kernel_rfl

theorem look_u64 {w : World} {b m n : Nat} {ks vs : List Int} {j : Int} (h : w.ownsMap Yba.prog 3 (plainElem Yba.prog 27) b m (mapN .u64 ks vs n)) (wj : (Lit.int .i64 j).wf = true) :
    (Instr.lookup 44 (.map (some b)) (.int .i64 j) true).run Yba.prog w = .ok (.tuple #[.int .u64 (lifeOf ks vs n j), .bool (lastV ks vs n j).isSome]) w := by
  obtain ⟨v, ps, hrun, hv⟩ := h.look_ok law3 Yba.underlying44 (zero27 w) (plainElem_int (H := Unit) Yba.underlying27 (by decide)) (keyOf_int_mk Yba.underlying3 wj)
  rw [atKey_mapN] at hv
  obtain ⟨c, rfl, hc, _⟩ := plainElem_int_inv Yba.underlying27 hv
  have hc' : lifeOf ks vs n j = c := by
    have := congrArg Prod.fst hc
    simpa [lifeOf] using this
  rw [hrun, has_mapN, hc']

theorem held_any (nb mb m n : Nat) (ks vs : List Int) (s j : Int) (w : World) (h : w.ownsMap Yba.prog 3 (plainElem Yba.prog 27) mb m (mapN .u64 ks vs n)) (wj : (Lit.int .i64 j).wf = true)
    (c0 : w.cell? ⟨nb, 783, none⟩ = some (.map (some mb))) (c1 : w.cell? ⟨nb, 784, none⟩ = some (.int .i64 s)) :
    Calls Yba.prog 9 #[.pointer (some ⟨nb, 0, none⟩), .int .i64 j] w fun e w' => e = .returned (.tuple #[.int .u64 (lifeOf ks vs n j), .bool (okOf ks vs n s j)]) ∧ w' = w := by
  have hl := look_u64 h wj
  have e0 : (lastV ks vs n j).isSome = false → lifeOf ks vs n j = 0 := fun h => by
    unfold lifeOf
    cases hc : lastV ks vs n j with
    | none => rfl
    | some x => rw [hc] at h; cases h
  have e1 : okOf ks vs n s j = ((lastV ks vs n j).isSome || decide (j < s)) := rfl
  generalize okOf ks vs n s j = ok at e1
  generalize lifeOf ks vs n j = life at hl e0
  generalize (lastV ks vs n j).isSome = b at hl e0 e1
  cases b
  · have e0' := e0 rfl
    subst e0'
    by_cases hj : j < s
    · have e1' : ok = true := by rw [e1]; simp [hj]
      subst e1'
      clear e1 e0
      go_enter Yba.func9, Yba.ntmps9
      go_wp2
      go_ret2
      exact ⟨rfl, rfl⟩
    · have e1' : ok = false := by rw [e1]; simp [hj]
      subst e1'
      clear e1 e0
      go_enter Yba.func9, Yba.ntmps9
      go_wp2
      go_ret2
      exact ⟨rfl, rfl⟩
  · have e1' : ok = true := by rw [e1]; simp
    subst e1'
    clear e1 e0
    go_enter Yba.func9, Yba.ntmps9
    go_wp2
    go_ret2
    exact ⟨rfl, rfl⟩

theorem wpList_build_two {P : Program} {w : World} {ops : Array Oper} {rest : List Oper} {o : Oper} {a : Act} {Q : Exit → Act → World → Prop} (hg : o.guard = Option.none) (t : TypeId) (i j : Nat) (x y : Operand) (hop : o.op = Op.build t #[(i, x), (j, y)])
    (vx vy : Value) (hx : a.eval x = vx) (hy : a.eval y = vy) (cs : Array Value) (hrun : (Instr.build t #[(i, vx), (j, vy)]).run P w = .ok (.agg cs) w)
    (hK : wpList P ops Q rest (a.put o.dst (.agg cs)) w) : wpList P ops Q (o :: rest) a w := by
  refine wpList_plain hg fun K' hK' => ?_
  unfold Oper.wp execOp
  simp only [hop, List.map_toArray, List.map_cons, List.map_nil, hx, hy, Sem.run_bind, hrun, Result.andThen_ok]
  exact hK' _ _ hK

theorem node_cells (b : Nat) (s : Int) : ∃ cs : Array Value, (∀ w, (Instr.build 48 #[(18, .map (some b)), (19, .int .i64 s)]).run Yba.prog w = .ok (.agg cs) w) ∧ cs[783]? = some (.map (some b)) ∧ cs[784]? = some (.int .i64 s) ∧ cs.size = 790 := by
  have h : ((Yba.prog.built 48 [(18, .map (some b)), (19, .int .i64 s)]).map fun cs => (cs.size, cs[783]?, cs[784]?)) = some (790, some (.map (some b)), some (.int .i64 s)) := by kernel_rfl
  obtain ⟨cs, hc, h⟩ := Option.map_eq_some_iff.1 h
  simp only [Prod.mk.injEq] at h
  exact ⟨cs, fun w => run_build w 48 _ cs hc, h.2.1, h.2.2, h.1⟩

end Go.Proofs.Ybulkbtko

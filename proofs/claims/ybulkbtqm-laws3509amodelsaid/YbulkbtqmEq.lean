import Derived.Test.YbulkbtqmStore
namespace Go.Proofs.Ybulkbtqm
open Go.RowKit
set_option linter.unusedVariables false

theorem eq5 (d : Nat) (x : Int) (w : World) : (Op.equalIn (d + 1) 5 (.int .u8 x) (.int .u8 x)).run Yba.prog w = .ok true w := by
  rw [run_equalIn_int w d 5 .u8 .u8 x x Yba.underlying5]; simp

theorem part5 (A : Array Value) (i : Nat) (v : Value) (h : A[i]? = some v) (w : World) : (part 5 A i).run Yba.prog w = .ok v w := by
  unfold part
  simp only [Sem.run_bind]
  have : (isAgg 5).run Yba.prog w = .ok false w := by go_simp
  rw [this]
  simp [h]

theorem eq30 (d : Nat) (A : Array Value) (hA : ∀ i, i < 20 → ∃ x, A[i]? = some (.int .u8 x)) (w : World) : (Op.equalIn (d + 2) 30 (.agg A) (.agg A)).run Yba.prog w = .ok true w := by
  rw [show d + 2 = (d + 1) + 1 from rfl]
  unfold Op.equalIn
  simp only [Sem.run_bind, run_underlying Yba.underlying30, Result.andThen_ok]
  have hs : (sizeOf 5).run Yba.prog w = .ok 1 w := by go_simp
  rw [hs]
  simp only [Result.andThen_ok, Nat.mul_one]
  have key : ∀ l : List Nat, (∀ i ∈ l, i < 20) → (forIn l ((none, ()) : Option Bool × Unit) fun i __s => do
              let __do_lift ← part 5 A i
              let __do_lift_1 ← part 5 A i
              let __do_lift ← Op.equalIn (d + 1) 5 __do_lift __do_lift_1
              if (!__do_lift) = true then pure (ForInStep.done (some false, ())) else pure (ForInStep.yield (none, ()))).run Yba.prog w = .ok (none, ()) w := by
    intro l
    induction l with
    | nil => intro _; simp
    | cons i l ih =>
      intro h
      obtain ⟨x, hx⟩ := hA i (h i (by simp))
      simp only [List.forIn_cons, Sem.run_bind, part5 A i _ hx, Result.andThen_ok, eq5, Bool.not_true, Bool.false_eq_true, if_false, Sem.run_pure]
      exact ih fun j hj => h j (by simp [hj])
  rw [Std.Legacy.Range.forIn_eq_forIn_range']
  rw [key _ (by simp [List.mem_range'])]
  simp

/-- Slot i as a list of cells. -/
def slotL (g sh : Nat → Nat) (rm : Nat → Bool) (T : Nat → TD) (i : Nat) : List Value := idList ((g i : Nat) : Int) ++ [.int .i32 0, .int .i32 ((2 * i : Nat) : Int), .int .i32 2, .int .i32 2, .int .u64 1, .bool (rm i), .int .u64 (sh i), .int .u64 0, .int .i32 (T i).l, .int .i32 (T i).r, .int .i64 (T i).i, .int .i64 (T i).v, .int .u64 (T i).x, .int .i32 (-1), .int .u32 0, .bool true]

set_option maxRecDepth 100000 in
theorem neq40 (g sh : Nat → Nat) (rm : Nat → Bool) (T : Nat → TD) (i : Nat) (w : World) : (binOp .neq 40 (.agg (slotL g sh rm T i).toArray) (.agg (slotL g sh rm T i).toArray)).run Yba.prog w = .ok (.bool false) w := by
  unfold slotL idList
  simp only [List.cons_append, List.nil_append]
  have h := fun w => eq30 9997 (idArr ((g i : Nat) : Int)) (fun j hj => by
    match j, hj with
    | 0, _ => exact ⟨_, rfl⟩
    | 1, _ => exact ⟨_, rfl⟩
    | 2, _ => exact ⟨_, rfl⟩
    | 3, _ => exact ⟨_, rfl⟩
    | 4, _ => exact ⟨_, rfl⟩
    | 5, _ => exact ⟨_, rfl⟩
    | 6, _ => exact ⟨_, rfl⟩
    | 7, _ => exact ⟨_, rfl⟩
    | 8, _ => exact ⟨_, rfl⟩
    | 9, _ => exact ⟨_, rfl⟩
    | 10, _ => exact ⟨_, rfl⟩
    | 11, _ => exact ⟨_, rfl⟩
    | 12, _ => exact ⟨_, rfl⟩
    | 13, _ => exact ⟨_, rfl⟩
    | 14, _ => exact ⟨_, rfl⟩
    | 15, _ => exact ⟨_, rfl⟩
    | 16, _ => exact ⟨_, rfl⟩
    | 17, _ => exact ⟨_, rfl⟩
    | 18, _ => exact ⟨_, rfl⟩
    | 19, _ => exact ⟨_, rfl⟩
    | k + 20, hk => exact absurd hk (by omega)) w
  unfold idArr idList at h
  go_simp

theorem slotL_len (g sh : Nat → Nat) (rm : Nat → Bool) (T : Nat → TD) (i : Nat) : (slotL g sh rm T i).length = 36 := rfl
theorem slotL_at (g sh : Nat → Nat) (rm : Nat → Bool) (T : Nat → TD) (i j : Nat) (hj : j < 36) : (slotL g sh rm T i)[j]? = some (slotCell g sh rm T i j) := by
  match j, hj with
  | 0, _ => rfl
  | 1, _ => rfl
  | 2, _ => rfl
  | 3, _ => rfl
  | 4, _ => rfl
  | 5, _ => rfl
  | 6, _ => rfl
  | 7, _ => rfl
  | 8, _ => rfl
  | 9, _ => rfl
  | 10, _ => rfl
  | 11, _ => rfl
  | 12, _ => rfl
  | 13, _ => rfl
  | 14, _ => rfl
  | 15, _ => rfl
  | 16, _ => rfl
  | 17, _ => rfl
  | 18, _ => rfl
  | 19, _ => rfl
  | 20, _ => rfl
  | 21, _ => rfl
  | 22, _ => rfl
  | 23, _ => rfl
  | 24, _ => rfl
  | 25, _ => rfl
  | 26, _ => rfl
  | 27, _ => rfl
  | 28, _ => rfl
  | 29, _ => rfl
  | 30, _ => rfl
  | 31, _ => rfl
  | 32, _ => rfl
  | 33, _ => rfl
  | 34, _ => rfl
  | 35, _ => rfl
  | k + 36, hk => exact absurd hk (by omega)
theorem slotL_one (g sh : Nat → Nat) (rm : Nat → Bool) (T : Nat → TD) (i : Nat) : (slotL g sh rm T i).toArray.all (·.oneCell') = true := by
  simp [slotL, idList, Value.oneCell']
theorem slotL_range {w : World} {SB n : Nat} {g sh : Nat → Nat} {rm : Nat → Bool} {T : Nat → TD} (h : w.rowIs SB 40 (n * 36) (slotF g sh rm T)) (i : Nat) (hi : i < n) : w.rangeAt SB (i * 36) (slotL g sh rm T i) := by
  intro j v hj
  have hl : j < 36 := by
    have := (List.getElem?_eq_some_iff.1 hj).1
    rwa [slotL_len] at this
  rw [slotL_at _ _ _ _ _ _ hl] at hj
  rw [h.cell (by omega)]
  unfold slotF
  rw [show (i * 36 + j) / 36 = i by omega, show (i * 36 + j) % 36 = j by omega]
  exact hj

/-- What the copying loop leaves. -/
structure LoopC (wE wr : World) (n i : Nat) (g sh : Nat → Nat) (rm : Nat → Bool) (T : Nat → TD) (f : Nat → Value) : Prop where
  sl : wr.rowIs wE.heap.size 40 (n * 36) (fun k => if k < i * 36 then slotF g sh rm T k else f k)
  bel : Below wE.heap.size wE wr

theorem LoopC.start (w : World) (n : Nat) (c : Array Value) (h : c.size = n * 36) (g sh : Nat → Nat) (rm : Nat → Bool) (T : Nat → TD) : LoopC w (w.alloc (.cells c 40)) n 0 g sh rm T (fun k => c[k]?.getD undef) :=
  ⟨(row_new w c 40 _ h).congr fun i _ => by simp, (Below.refl _ _).alloc (Nat.le_refl _) _⟩

theorem LoopC.step {wE wr : World} {n i : Nat} {g sh : Nat → Nat} {rm : Nat → Bool} {T : Nat → TD} {f : Nat → Value} (h : LoopC wE wr n i g sh rm T f) (hi : i < n) :
    LoopC wE (wr.setCells wE.heap.size (i * 36) (slotL g sh rm T i)) n (i + 1) g sh rm T f := by
  refine ⟨(row_setCells _ (i * 36) h.sl).congr fun k hk => ?_, below_setCells _ (Nat.le_refl _) _ _ h.bel⟩
  rw [slotL_len]
  by_cases c : i * 36 ≤ k ∧ k < i * 36 + 36
  · rw [if_pos c, if_pos (by omega), slotL_at _ _ _ _ _ _ (by omega)]
    unfold slotF
    rw [show k / 36 = i by omega, show k % 36 = k - i * 36 by omega]
    rfl
  · rw [if_neg c]
    by_cases c1 : k < i * 36
    · rw [if_pos c1, if_pos (by omega)]
    · rw [if_neg c1, if_neg (by omega)]

theorem build60 (mg : Nat) (mk : ByteArray) (w : World) : (Instr.build 60 #[(0, .agg (idArr mg)), (1, .string mk)]).run Yba.prog w = .ok (.agg (markArr mg mk)) w := by
  have h : Yba.prog.built 60 [(0, .agg (idArr mg)), (1, .string mk)] = some (markArr mg mk) := by kernel_rfl
  exact run_build w 60 _ _ h

theorem wpList_build_two {P : Program} {w : World} {ops : Array Oper} {rest : List Oper} {o : Oper} {a : Act} {Q : Exit → Act → World → Prop} (hg : o.guard = Option.none) (t : TypeId) (i j : Nat) (x y : Operand) (hop : o.op = Op.build t #[(i, x), (j, y)])
    (vx vy : Value) (hx : a.eval x = vx) (hy : a.eval y = vy) (cs : Array Value) (hrun : (Instr.build t #[(i, vx), (j, vy)]).run P w = .ok (.agg cs) w)
    (hK : wpList P ops Q rest (a.put o.dst (.agg cs)) w) : wpList P ops Q (o :: rest) a w := by
  refine wpList_plain hg fun K' hK' => ?_
  unfold Oper.wp execOp
  simp only [hop, List.map_toArray, List.map_cons, List.map_nil, hx, hy, Sem.run_bind, hrun, Result.andThen_ok]
  exact hK' _ _ hK

theorem mark_one (mg : Nat) (mk : ByteArray) : (markArr mg mk).all (·.oneCell') = true := by
  simp [markArr, markList, idList, Value.oneCell']

/-- The world behind 'm := mark{..}'. -/
abbrev markW (wD : World) (mg : Nat) (mk : ByteArray) : World := (wD.alloc (.cells #[.int .u8 0, .int .u8 0, .int .u8 0, .int .u8 0, .int .u8 0, .int .u8 0, .int .u8 0, .int .u8 0, .int .u8 0, .int .u8 0, .int .u8 0, .int .u8 0, .int .u8 0, .int .u8 0, .int .u8 0, .int .u8 0, .int .u8 0, .int .u8 0, .int .u8 0, .int .u8 0, .string ⟨#[]⟩] 60)).setCells wD.heap.size 0 (markList (mg : Int) mk)
theorem markW_range (wD : World) (mg : Nat) (mk : ByteArray) : (markW wD mg mk).rangeAt wD.heap.size 0 (markList mg mk) :=
  World.rangeAt_setCells_same _ wD.heap.size 0 (markList mg mk) (there_new wD _ 60 21 _ rfl (Nat.le_refl _))
theorem markW_below (wD : World) (mg : Nat) (mk : ByteArray) : Below wD.heap.size wD (markW wD mg mk) :=
  below_setCells _ (Nat.le_refl _) _ _ ((Below.refl _ _).alloc (Nat.le_refl _) _)

theorem Stands.later {w wC w' : World} {GB stB SB CB BB n : Nat} {ai : Option Addr} {st sh : Nat → Nat} {rm : Nat → Bool} {T : Nat → TD} {t : Int} (h : Stands w wC GB stB SB CB BB n ai st sh rm T t) (hB : Below wC.heap.size wC w') : Stands w w' GB stB SB CB BB n ai st sh rm T t :=
  ⟨h.mem.later hB, cell_stays hB h.order, fun i hi => cell_stays hB (h.gs i hi), h.items.later hB, h.tree, below_more h.bel hB⟩

end Go.Proofs.Ybulkbtqm

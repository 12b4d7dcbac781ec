import Derived.Test.YbulkbtkoGreatFmtFloat
import Derived.WalkKit
import Derived.WalkSpells
import Derived.WalkSmall
import Derived.BigQuiet
import Derived.Deep.QuietTactic
import Derived.Deep.OwnRows
import Derived.Deep.RegionHeld3
import Derived.Deep.MidRow
import Derived.Deep.CutBlock
import Derived.Deep.DeepCutAuto
import Derived.Deep.AppendLies
import Derived.Deep.DeepAppendRoom
import Derived.Lib.JoinLaws
import Derived.WalkLawsBesides
import Derived.Maps.OwnSet
import Derived.Maps.Views
import Derived.Below
namespace Go.Proofs.YbulkbtkoGreatFmt
open Go.RowKit
set_option linter.unusedVariables false
set_option linter.unusedSimpArgs false

theorem hide {p : Prop} (h : p) : Hid p := h
theorem unhide {p : Prop} (h : Hid p) : p := h

theorem rangeAt_new (w : World) (c : Array Value) (t : TypeId) (n : Nat) (hn : n = w.heap.size) : (w.alloc (.cells c t)).rangeAt n 0 c.toList := by
  subst hn
  intro j v hj
  have h : c[j]? = some v := by simpa using hj
  rw [Nat.zero_add]
  go_simp

theorem there_new (w : World) (c : Array Value) (t : TypeId) (n m : Nat) (hm : m = w.heap.size) (h : n ≤ c.size) : (w.alloc (.cells c t)).there m 0 n := by
  subst hm
  intro j hj
  obtain ⟨v, hv⟩ : ∃ v, c[j]? = some v := ⟨c[j]'(by omega), by simp⟩
  rw [Nat.zero_add]
  refine ⟨?_, ?_⟩
  · have : (w.alloc (.cells c t)).cell? ⟨w.heap.size, j, none⟩ = some v := by go_simp
    rw [this]; rfl
  · go_simp

theorem results_one {fn : Func} {p : Tmp} {ty : TypeId} (h : fn.results = #[.cell p ty]) {tmps : Array Value} {P : Program} {w : World} {b o : Nat} {v : Value} (hp : tmps.getD p undef = .pointer (some ⟨b, o, none⟩))
    (hl : (loadVar ty ⟨b, o, none⟩).run P w = .ok v w) : (results fn tmps).run P w = .ok v w := by
  have hp' : tmps[p]?.getD undef = .pointer (some ⟨b, o, none⟩) := by simpa using hp
  simp only [results, h]
  simp [asAddr, hp', hl]

theorem below_setCells {B : Nat} {a : World} (b : Nat) (hb : B ≤ b) : ∀ (vs : List Value) (o : Nat) {w : World}, Below B a w → Below B a (w.setCells b o vs)
  | [], _, _, h => h
  | v :: r, o, _, h => below_setCells b hb r (o + 1) (h.setCell (p := ⟨b, o, none⟩) hb v)

theorem below_more {w X w' : World} (h : Below w.heap.size w X) (hB : Below X.heap.size X w') : Below w.heap.size w w' := h.trans (hB.mono h.size)

theorem cell_stays {w w' : World} (hB : Below w.heap.size w w') {a : Addr} {v : Value} (h : w.cell? a = some v) : w'.cell? a = some v :=
  (hB.cell (World.block_lt_of_cell? _ _ h)).trans h

theorem cell_setCells_far {w : World} {b o : Nat} {vs : List Value} {x : Addr} {v : Value} (hne : x.block ≠ b) (h : w.cell? x = some v) : (w.setCells b o vs).cell? x = some v :=
  (World.cell?_setCells_out b vs o w x (fun e => absurd e hne)).trans h

theorem rangeAt_below {w w' : World} {b o : Nat} {cs : List Value} (h : w.rangeAt b o cs) (hB : Below w.heap.size w w') : w'.rangeAt b o cs := fun j v hv => cell_stays hB (h j v hv)

theorem there_of_row {w : World} {b : Nat} {t : TypeId} {n : Nat} {f : Nat → Value} (h : w.rowIs b t n f) (o m : Nat) (hm : o + m ≤ n) : w.there b o m := by
  intro j hj
  refine ⟨?_, h.frozen _⟩
  rw [h.cell (by omega)]; rfl

theorem row_setCells {b : Nat} {t : TypeId} {n : Nat} : ∀ (vs : List Value) (o : Nat) {w : World} {f : Nat → Value}, w.rowIs b t n f → (w.setCells b o vs).rowIs b t n (fun k => if o ≤ k ∧ k < o + vs.length then vs[k - o]?.getD undef else f k)
  | [], o, w, f, h => h.congr fun i hi => by rw [if_neg (by rw [List.length_nil]; omega)]
  | v :: r, o, w, f, h => by
    refine (row_setCells r (o + 1) (h.set o v)).congr fun k hk => ?_
    by_cases c : k = o
    · subst c
      rw [if_neg (by omega), if_pos rfl, if_pos (by simp)]
      simp
    · by_cases c1 : o + 1 ≤ k ∧ k < o + 1 + r.length
      · rw [if_pos c1, if_pos (by simp; omega)]
        rw [show k - o = (k - (o + 1)) + 1 by omega]
        simp
      · rw [if_neg c1, if_neg c, if_neg (by simp; omega)]

theorem results_two {fn : Func} {p q : Tmp} {ty : TypeId} (h : fn.results = #[.cell p ty, .tmp q]) {tmps : Array Value} {P : Program} {w : World} {b o : Nat} {v u : Value} (hp : tmps.getD p undef = .pointer (some ⟨b, o, none⟩)) (hq : tmps.getD q undef = u)
    (hl : (loadVar ty ⟨b, o, none⟩).run P w = .ok v w) : (results fn tmps).run P w = .ok (.tuple #[v, u]) w := by
  have hp' : tmps[p]?.getD undef = .pointer (some ⟨b, o, none⟩) := by simpa using hp
  have hq' : tmps[q]?.getD undef = u := by simpa using hq
  simp only [results, h]
  simp [asAddr, hp', hq', hl]

theorem ge_of {a b : Nat} {x y : Int} (ha : Reads a x) (hb : Reads b y) : (FloatKind.f64.format.order a b == some Ordering.gt || FloatKind.f64.format.order a b == some Ordering.eq) = decide (y ≤ x) := by
  have ho : FloatKind.f64.format.order a b = some (compare x y) := reads_order ha hb
  rw [ho]
  rcases Int.lt_trichotomy x y with h | h | h
  · rw [Int.compare_eq_lt.2 h]
    have : ¬ y ≤ x := by omega
    simp [this]
  · rw [Int.compare_eq_eq.2 h]
    have : y ≤ x := by omega
    simp [this]
  · rw [Int.compare_eq_gt.2 h]
    have : y ≤ x := by omega
    simp [this]

theorem gt_of {a b : Nat} {x y : Int} (ha : Reads a x) (hb : Reads b y) : (FloatKind.f64.format.order a b == some Ordering.gt) = decide (y < x) := by
  have ho : FloatKind.f64.format.order a b = some (compare x y) := reads_order ha hb
  rw [ho]
  rcases Int.lt_trichotomy x y with h | h | h
  · rw [Int.compare_eq_lt.2 h]
    have : ¬ y < x := by omega
    simp [this]
  · rw [Int.compare_eq_eq.2 h]
    have : ¬ y < x := by omega
    simp [this]
  · rw [Int.compare_eq_gt.2 h]
    simp [h]

theorem grown_refl (w : World) (r : Option Nat) : w.grownBy w r := ⟨rfl, rfl, rfl, Nat.le_refl _, fun _ _ _ => rfl⟩

theorem grown_trans {a b c : World} {r : Option Nat} (h : a.grownBy b r) (k : b.grownBy c r) : a.grownBy c r :=
  ⟨k.os.trans h.os, k.tape.trans h.tape, k.output.trans h.output, Nat.le_trans h.size k.size, fun i hi hr => (k.block i (Nat.lt_of_lt_of_le hi h.size) hr).trans (h.block i hi hr)⟩

theorem grown_below {w w' : World} (h : Below w.heap.size w w') (r : Option Nat) : w.grownBy w' r := ⟨h.os, h.tape, h.output, h.size, fun k hk _ => h.block k hk⟩

theorem grown_setCells {g : Nat} : ∀ (vs : List Value) (o : Nat) (w : World), w.grownBy (w.setCells g o vs) (some g)
  | [], _, w => grown_refl w _
  | v :: r, o, w => grown_trans (b := w.setCell ⟨g, o, none⟩ v) ⟨rfl, rfl, rfl, by simp, fun k _ hk => Below.heap_setCell _ _ _ _ (by intro e; exact hk (by rw [e]))⟩ (grown_setCells r (o + 1) _)

theorem there_far {w w' : World} {b o n : Nat} (h : w.there b o n) (e : w'.heap[b]? = w.heap[b]?) : w'.there b o n := fun j hj =>
  ⟨by rw [World.cell?_of_block (a := ⟨b, o + j, none⟩) e]; exact (h j hj).1, by rw [World.frozen?_of_block (a := ⟨b, o + j, none⟩) e]; exact (h j hj).2⟩

theorem range_far {w w' : World} {b o : Nat} {cs : List Value} (h : w.rangeAt b o cs) (e : w'.heap[b]? = w.heap[b]?) : w'.rangeAt b o cs := fun j v hj =>
  (World.cell?_of_block (a := ⟨b, o + j, none⟩) e).trans (h j v hj)

def putF (f : Nat → Value) (i : Nat) (u : Value) : Nat → Value := fun j => if j = i then u else f j
theorem own_range {w : World} {base g cap k : Nat} {e : TypeId} {xs : List Value} (h : w.ownsRow base e k (.slice (some ⟨g, 0, none⟩) 1 cap) 1 xs) : w.rangeAt g 0 xs ∧ w.there g 0 k ∧ 1 ≤ cap := by
  rcases h.2 with ⟨h0, _⟩ | ⟨g', cap', cur, hv, _, hg, hc, _, hs, ht⟩
  · cases h0
  · simp only [Value.slice.injEq, Option.some.injEq, Addr.mk.injEq] at hv
    obtain ⟨⟨rfl, _⟩, _, rfl⟩ := hv
    have hk : k ≤ cur.size := by rw [hs]; exact Nat.le_mul_of_pos_left _ (by omega)
    refine ⟨fun j u hj => ?_, fun j hj => ⟨?_, ?_⟩, hc⟩
    · have hj' : cur[j]? = some u := by
        rw [← ht, List.getElem?_take] at hj
        split at hj
        · simpa using hj
        · cases hj
      rw [Nat.zero_add]
      simp [World.cell?, hg, hj']
    · rw [Nat.zero_add]
      simp only [World.cell?, hg]
      simp [show j < cur.size by omega]
    · simp [World.frozen?, hg]

theorem yields_build2 {P : Program} {ops : Array Oper} {S : World → Prop} {o : Oper} {a : Act} (hw : Region.wanted o (yielded ops a.tmps) = true) (t : TypeId) (i1 i2 : Nat) (x1 x2 : Operand)
    (hop : o.op = Op.build t #[(i1, x1), (i2, x2)]) (v1 v2 : Value) (h1 : a.eval x1 = v1) (h2 : a.eval x2 = v2)
    (cs : Array Value) (hrun : ∀ w, (Instr.build t #[(i1, v1), (i2, v2)]).run P w = .ok (.agg cs) w) : YieldsIf P ops S o (.agg cs) a :=
  .inl ⟨hw, fun w _ => by
    unfold execOp
    simp only [hop, List.map_toArray, List.map_cons, List.map_nil, h1, h2, Sem.run_bind, hrun, Result.andThen_ok]
    rfl⟩

theorem row_new (w : World) (c : Array Value) (t : TypeId) (n : Nat) (h : c.size = n) : (w.alloc (.cells c t)).rowIs w.heap.size t n (fun k => c[k]?.getD undef) := by
  subst h
  exact World.rowIs_alloc w c t _ fun i hi => by simp [hi]

theorem wpList_build1 {P : Program} {w : World} {ops : Array Oper} {rest : List Oper} {o : Oper} {a : Act} {Q : Exit → Act → World → Prop} (hg : o.guard = Option.none) (t : TypeId) (i : Nat) (x : Operand) (hop : o.op = Op.build t #[(i, x)])
    (vx : Value) (hx : a.eval x = vx) (cs : Array Value) (hrun : (Instr.build t #[(i, vx)]).run P w = .ok (.agg cs) w)
    (hK : wpList P ops Q rest (a.put o.dst (.agg cs)) w) : wpList P ops Q (o :: rest) a w := by
  refine wpList_plain hg fun K' hK' => ?_
  unfold Oper.wp execOp
  simp only [hop, List.map_toArray, List.map_cons, List.map_nil, hx, Sem.run_bind, hrun, Result.andThen_ok]
  exact hK' _ _ hK

theorem wpList_build2 {P : Program} {w : World} {ops : Array Oper} {rest : List Oper} {o : Oper} {a : Act} {Q : Exit → Act → World → Prop} (hg : o.guard = Option.none) (t : TypeId) (i j : Nat) (x y : Operand) (hop : o.op = Op.build t #[(i, x), (j, y)])
    (vx vy : Value) (hx : a.eval x = vx) (hy : a.eval y = vy) (cs : Array Value) (hrun : (Instr.build t #[(i, vx), (j, vy)]).run P w = .ok (.agg cs) w)
    (hK : wpList P ops Q rest (a.put o.dst (.agg cs)) w) : wpList P ops Q (o :: rest) a w := by
  refine wpList_plain hg fun K' hK' => ?_
  unfold Oper.wp execOp
  simp only [hop, List.map_toArray, List.map_cons, List.map_nil, hx, hy, Sem.run_bind, hrun, Result.andThen_ok]
  exact hK' _ _ hK

theorem wpList_build4 {P : Program} {w : World} {ops : Array Oper} {rest : List Oper} {o : Oper} {a : Act} {Q : Exit → Act → World → Prop} (hg : o.guard = Option.none) (t : TypeId) (i j k l : Nat) (x y z u : Operand) (hop : o.op = Op.build t #[(i, x), (j, y), (k, z), (l, u)])
    (vx vy vz vu : Value) (hx : a.eval x = vx) (hy : a.eval y = vy) (hz : a.eval z = vz) (hu : a.eval u = vu) (cs : Array Value) (hrun : (Instr.build t #[(i, vx), (j, vy), (k, vz), (l, vu)]).run P w = .ok (.agg cs) w)
    (hK : wpList P ops Q rest (a.put o.dst (.agg cs)) w) : wpList P ops Q (o :: rest) a w := by
  refine wpList_plain hg fun K' hK' => ?_
  unfold Oper.wp execOp
  simp only [hop, List.map_toArray, List.map_cons, List.map_nil, hx, hy, hz, hu, Sem.run_bind, hrun, Result.andThen_ok]
  exact hK' _ _ hK

theorem yields_build1 {P : Program} {ops : Array Oper} {S : World → Prop} {o : Oper} {a : Act} (hw : Region.wanted o (yielded ops a.tmps) = true) (t : TypeId) (i1 : Nat) (x1 : Operand)
    (hop : o.op = Op.build t #[(i1, x1)]) (v1 : Value) (h1 : a.eval x1 = v1)
    (cs : Array Value) (hrun : ∀ w, (Instr.build t #[(i1, v1)]).run P w = .ok (.agg cs) w) : YieldsIf P ops S o (.agg cs) a :=
  .inl ⟨hw, fun w _ => by
    unfold execOp
    simp only [hop, List.map_toArray, List.map_cons, List.map_nil, h1, Sem.run_bind, hrun, Result.andThen_ok]
    rfl⟩

theorem row_put (w : World) (c : Array Value) (t : TypeId) (n i : Nat) (v : Value) (h : c.size = n) : (w.alloc (.cells (c.setIfInBounds i v) t)).rowIs w.heap.size t n (putF (fun k => c[k]?.getD undef) i v) := by
  refine (row_new w (c.setIfInBounds i v) t n (by simp [h])).congr fun k hk => ?_
  simp only [putF, Array.getElem?_setIfInBounds]
  by_cases c1 : k = i
  · subst c1; simp [h, hk]
  · rw [if_neg c1, if_neg (by omega)]

theorem eq_of' {a b : Nat} {x y : Int} (ha : Reads a x) (hb : Reads b y) : (FloatKind.f64.format.order a b == some Ordering.eq) = decide (x = y) := by
  have ho : FloatKind.f64.format.order a b = some (compare x y) := reads_order ha hb
  rw [ho]
  rcases Int.lt_trichotomy x y with h | h | h
  · rw [Int.compare_eq_lt.2 h]
    have : ¬ x = y := by omega
    simp [this]
  · rw [Int.compare_eq_eq.2 h]
    simp [h]
  · rw [Int.compare_eq_gt.2 h]
    have : ¬ x = y := by omega
    simp [this]
theorem lt_of' {a b : Nat} {x y : Int} (ha : Reads a x) (hb : Reads b y) : (FloatKind.f64.format.order a b == some Ordering.lt) = decide (x < y) := by
  have ho : FloatKind.f64.format.order a b = some (compare x y) := reads_order ha hb
  rw [ho]
  rcases Int.lt_trichotomy x y with h | h | h
  · rw [Int.compare_eq_lt.2 h]
    simp [h]
  · rw [Int.compare_eq_eq.2 h]
    have : ¬ x < y := by omega
    simp [this]
  · rw [Int.compare_eq_gt.2 h]
    have : ¬ x < y := by omega
    simp [this]

end Go.Proofs.YbulkbtkoGreatFmt

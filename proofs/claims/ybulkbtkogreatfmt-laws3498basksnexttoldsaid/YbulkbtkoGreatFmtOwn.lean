import Derived.Test.YbulkbtkoGreatFmtHear
namespace Go.Proofs.YbulkbtkoGreatFmt
open Go.RowKit
set_option linter.unusedVariables false
set_option linter.unusedSimpArgs false

/-- The block of a slice's row, if it has one. -/
def ob (v : Value) : List Nat := v.ownBlock.toList
theorem Fr.of_grown {a b : World} {v : Value} (h : a.grownBy b v.ownBlock) : Fr a b (ob v) :=
  ⟨h.os, h.tape, h.output, h.size, fun k hk hS => h.block k hk fun e => hS (by unfold ob; rw [← e]; simp)⟩
theorem own_of_block {w w' : World} {e k n : Nat} {v : Value} {xs : List Value} (h : w.ownsRow 0 e k v n xs) (hb : ∀ g ∈ ob v, w'.heap[g]? = w.heap[g]?) : w'.ownsRow 0 e k v n xs := by
  refine ⟨h.1, ?_⟩
  rcases h.2 with h | ⟨g, cap, cur, rfl, h0, hg, hr⟩
  · exact .inl h
  · exact .inr ⟨g, cap, cur, rfl, h0, (hb g (by simp [ob, Value.ownBlock])).trans hg, hr⟩
theorem own_lt {w : World} {e k n : Nat} {v : Value} {xs : List Value} (h : w.ownsRow 0 e k v n xs) : ∀ g ∈ ob v, g < w.heap.size := by
  intro g hg
  rcases h.2 with ⟨rfl, _⟩ | ⟨g', cap, cur, rfl, h0, hg', hr⟩
  · simp [ob, Value.ownBlock] at hg
  · simp [ob, Value.ownBlock] at hg
    subst hg
    rcases Nat.lt_or_ge g w.heap.size with h | h
    · exact h
    · simp [Array.getElem?_eq_none h] at hg'
theorem own_fr {w w' : World} {e k n : Nat} {v : Value} {xs : List Value} {S : List Nat} (h : w.ownsRow 0 e k v n xs) (hf : Fr w w' S) (hS : ∀ g ∈ ob v, g ∉ S) : w'.ownsRow 0 e k v n xs :=
  own_of_block h fun g hg => hf.block g (own_lt h g hg) (hS g hg)
theorem own_cells {w : World} {e k n : Nat} {v : Value} {xs : List Value} (h : w.ownsRow 0 e k v n xs) (hn : 0 < n) : ∃ g cap, v = .slice (some ⟨g, 0, none⟩) n cap ∧ g ∈ ob v ∧ ∀ j u, xs[j]? = some u → w.cell? ⟨g, j, none⟩ = some u := by
  rcases h.2 with ⟨_, h0⟩ | ⟨g, cap, cur, rfl, _, hg, hc, _, hs, ht⟩
  · omega
  · refine ⟨g, cap, rfl, by simp [ob, Value.ownBlock], fun j u hj => ?_⟩
    have hj' : cur[j]? = some u := by
      rw [← ht, List.getElem?_take] at hj
      split at hj
      · simpa using hj
      · cases hj
    simp [World.cell?, hg, hj']
theorem own_shape {w : World} {e k n : Nat} {v : Value} {xs : List Value} (h : w.ownsRow 0 e k v n xs) : ∃ (a : Option Addr) (cap : Nat), v = .slice a n cap ∧ (n = 0 ∨ ∃ g, a = some ⟨g, 0, none⟩ ∧ g ∈ ob v) := by
  rcases h.2 with ⟨rfl, rfl⟩ | ⟨g, cap, cur, rfl, _⟩
  · exact ⟨none, 0, rfl, .inl rfl⟩
  · exact ⟨_, cap, rfl, .inr ⟨g, rfl, by simp [ob, Value.ownBlock]⟩⟩
theorem Fr.wide {a b c : World} {S S' : List Nat} (h : Fr a b S) (k : Fr b c S') (hS : ∀ x ∈ S', x ∈ S ∨ a.heap.size ≤ x) : Fr a c S :=
  ⟨k.os.trans h.os, k.tape.trans h.tape, k.output.trans h.output, Nat.le_trans h.size k.size, fun i hi hn => (k.block i (Nat.lt_of_lt_of_le hi h.size) fun hm => by
    rcases hS i hm with h1 | h1
    · exact hn h1
    · omega).trans (h.block i hi hn)⟩
theorem Fr.alloc {a b : World} {S : List Nat} (h : Fr a b S) (o : Obj) : Fr a (b.alloc o) S := h.wide (S' := []) (.of_below ((Below.refl _ b).alloc (Nat.le_refl _) o)) (by simp)
theorem Fr.cell {a b : World} {S : List Nat} (h : Fr a b S) {x : Addr} {v : Value} (hx : a.cell? x = some v) (hS : x.block ∉ S) : b.cell? x = some v :=
  (World.cell?_of_block (h.block _ (World.block_lt_of_cell? _ _ hx) hS)).trans hx

theorem yields_build3 {P : Program} {ops : Array Oper} {S : World → Prop} {o : Oper} {a : Act} (hw : Region.wanted o (yielded ops a.tmps) = true) (t : TypeId) (i1 i2 i3 : Nat) (x1 x2 x3 : Operand)
    (hop : o.op = Op.build t #[(i1, x1), (i2, x2), (i3, x3)]) (v1 v2 v3 : Value) (h1 : a.eval x1 = v1) (h2 : a.eval x2 = v2) (h3 : a.eval x3 = v3)
    (cs : Array Value) (hrun : ∀ w, (Instr.build t #[(i1, v1), (i2, v2), (i3, v3)]).run P w = .ok (.agg cs) w) : YieldsIf P ops S o (.agg cs) a :=
  .inl ⟨hw, fun w _ => by
    unfold execOp
    simp only [hop, List.map_toArray, List.map_cons, List.map_nil, h1, h2, h3, Sem.run_bind, hrun, Result.andThen_ok]
    rfl⟩

/-- A heard node's three cells. -/
def hdL (cw id : Nat → Nat) (s j : Nat) : List Value := [.int .i64 ((j : Nat) : Int), .float .f64 (cw j), .int .i64 ((shD (id s) (id j) : Nat) : Int)]
theorem build65 (j : Int) (c : Nat) (h : Int) (w : World) : (Instr.build 65 #[(0, .int .i64 j), (1, .float .f64 c), (2, .int .i64 h)]).run Ybaz.prog w = .ok (.agg #[.int .i64 j, .float .f64 c, .int .i64 h]) w := by
  refine run_build w 65 _ _ ?_
  kernel_rfl
theorem inf65 : ∃ i, Ybaz.prog.info? 65 = some i ∧ i.zero = some (.agg #[.int .i64 0, .float .f64 0, .int .i64 0]) ∧ i.size = 3 ∧ i.bytes = 24 := by
  have h : (Ybaz.prog.info? 65).map (fun i => (i.zero, i.size, i.bytes)) = some (some (.agg #[.int .i64 0, .float .f64 0, .int .i64 0]), 3, 24) := by kernel_rfl
  obtain ⟨i, hi, hz⟩ := Option.map_eq_some_iff.1 h
  simp only [Prod.mk.injEq] at hz
  exact ⟨i, hi, hz.1, hz.2.1, hz.2.2⟩
def hdsL (cw id : Nat → Nat) (s : Nat) (l : List Nat) : List Value := l.flatMap (hdL cw id s)

end Go.Proofs.YbulkbtkoGreatFmt

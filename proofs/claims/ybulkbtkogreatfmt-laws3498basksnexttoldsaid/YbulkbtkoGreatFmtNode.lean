import Derived.Test.YbulkbtkoGreatFmtSet
namespace Go.Proofs.YbulkbtkoGreatFmt
open Go.RowKit
set_option linter.unusedVariables false
set_option linter.unusedSimpArgs false

/-- Only draws lie between: every block is as it was. -/
structure Same (w w' : World) : Prop where
  heap : w'.heap = w.heap
  os : w'.os = w.os
  tape : w'.tape = w.tape
  output : w'.output = w.output
theorem Same.refl (w : World) : Same w w := ⟨rfl, rfl, rfl, rfl⟩
theorem Same.trans {a b c : World} (h : Same a b) (k : Same b c) : Same a c := ⟨k.heap.trans h.heap, k.os.trans h.os, k.tape.trans h.tape, k.output.trans h.output⟩
theorem Same.drew {a b : World} (h : Same a b) : Same a b.drew := ⟨h.heap, h.os, h.tape, h.output⟩
theorem Same.drewN {a b : World} (h : Same a b) (n : Nat) : Same a (b.drewN n) := ⟨h.heap, h.os, h.tape, h.output⟩
theorem Same.below {a b : World} (h : Same a b) (B : Nat) : Below B a b := ⟨h.os, h.tape, h.output, by rw [h.heap]; exact Nat.le_refl _, fun k _ => by rw [h.heap]⟩
theorem Same.block {a b : World} (h : Same a b) (k : Nat) : b.heap[k]? = a.heap[k]? := by rw [h.heap]
theorem Same.cell {a b : World} (h : Same a b) (x : Addr) : b.cell? x = a.cell? x := World.cell?_of_block (h.block _)

/-- The ids and the costs as they lie: rows at ib and cb; the closure's variable at vb. -/
structure Net (w : World) (ib cb vb N : Nat) (id cw : Nat → Nat) : Prop where
  ids : w.rowIs ib 34 N (fun i => .int .u64 ((id i : Nat) : Int))
  cost : w.rowIs cb 51 N (fun i => .float .f64 (cw i))
  var : w.cell? ⟨vb, 0, none⟩ = some (.slice (some ⟨cb, 0, none⟩) N N)

theorem Net.of_blocks {w w' : World} {ib cb vb N : Nat} {id cw : Nat → Nat} (h : Net w ib cb vb N id cw) (h1 : w'.heap[ib]? = w.heap[ib]?) (h2 : w'.heap[cb]? = w.heap[cb]?) (h3 : w'.heap[vb]? = w.heap[vb]?) : Net w' ib cb vb N id cw :=
  ⟨h.ids.of_block h1, h.cost.of_block h2, (World.cell?_of_block (a := ⟨vb, 0, none⟩) h3).trans h.var⟩

theorem cost_any {w : World} {ib cb vb N : Nat} {id cw : Nat → Nat} (h : Net w ib cb vb N id cw) (j : Nat) (hj : j < N) (hN : N ≤ 300) :
    Calls Ybaz.prog 11 #[.int .i64 (j : Int), .pointer (some ⟨vb, 0, none⟩)] w fun e w' => e = .returned (.float .f64 (cw j)) ∧ w' = w := by
  have c1 := h.var
  have c2 := h.cost.cell hj
  have i1 : (j : Int) < (N : Int) := by omega
  have i0 : (0 : Int) ≤ (j : Int) := by omega
  go_enter Ybaz.func11, Ybaz.ntmps11
  go_wp2
  go_ret
  exact ⟨rfl, rfl⟩

theorem nshared_any {w : World} {ib cb vb N nb s : Nat} {id cw : Nat → Nat} (h : Net w ib cb vb N id cw) (hid : ∀ i, id i < 18446744073709551616) (hN : N ≤ 300)
    (c0 : w.cell? ⟨nb, 0, none⟩ = some (.int .i64 (s : Int))) (c1 : w.cell? ⟨nb, 1, none⟩ = some (.slice (some ⟨ib, 0, none⟩) N N)) (hs : s < N) (j : Nat) (hj : j < N) :
    Calls Ybaz.prog 22 #[.pointer (some ⟨nb, 0, none⟩), .int .i64 (j : Int)] w fun e w' => e = .returned (.int .i64 ((shD (id s) (id j) : Nat) : Int)) ∧ Same w w' := by
  have d1 := h.ids.cell hj
  have d2 := h.ids.cell hs
  have i1 : (j : Int) < (N : Int) := by omega
  have i2 : (s : Int) < (N : Int) := by omega
  go_enter Ybaz.func22, Ybaz.ntmps22
  go_wp2_with fail
  go_region_held3 (fun w' => w'.cell? ⟨nb, 0, none⟩ = some (.int .i64 (s : Int)) ∧ w'.cell? ⟨nb, 1, none⟩ = some (.slice (some ⟨ib, 0, none⟩) N N) ∧ w'.cell? ⟨ib, j, none⟩ = some (.int .u64 ((id j : Nat) : Int)) ∧ w'.cell? ⟨ib, s, none⟩ = some (.int .u64 ((id s : Nat) : Int)))
    (exact ⟨c0, c1, d1, d2⟩)
    ((go_at_call 30; refine (shared_any (id s) (id j) _ (hid s) (hid j)).mono ?_; rintro e w1 ⟨rfl, rfl⟩))
  all_goals (go_wp2_with fail; go_ret; exact ⟨rfl, (Same.refl _).drew⟩)

end Go.Proofs.YbulkbtkoGreatFmt

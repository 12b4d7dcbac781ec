import Derived.Test.YbulkbtqmModel
import Derived.Test.YbulkbtqmTwo
import Derived.Deep.DeepAppendRoom
import Derived.Lib.JoinLaws
namespace Go.Proofs.Ybulkbtqm
open Go.RowKit
set_option linter.unusedVariables false

theorem inf3 : (Yba.prog.info? 3).map (fun i => (i.zero, i.size, i.bytes)) = some (some (.int .i64 0), 1, 8) := by kernel_rfl
theorem inf5 : (Yba.prog.info? 5).map (fun i => (i.zero, i.size, i.bytes)) = some (some (.int .u8 0), 1, 1) := by kernel_rfl
theorem inf40 : (Yba.prog.info? 40).map (fun i => (i.zero.isSome, i.size, decide (i.bytes ≤ 10000))) = some (true, 36, true) := by kernel_rfl

theorem made24 (n : Nat) (hn : n ≤ 600) : ∃ c : Array Value, c.size = n ∧ ∀ w : World, (Instr.makeSlice 24 (.int .i64 (n : Int)) (.int .i64 (n : Int))).run Yba.prog w = .ok (.slice (some ⟨w.heap.size, 0, none⟩) n n) (w.alloc (.cells c 3)) :=
  ⟨madeCells #[.int .i64 0] n, size_madeCells _ _, fun w => run_make_row' 24 3 (.int .i64 0) 8 Yba.underlying24 inf3 rfl .i64 .i64 n (by omega) (by omega) w⟩

theorem made23 (n : Nat) (hn : n ≤ 600) : ∃ c : Array Value, c.size = 2 * n ∧ ∀ w : World, (Instr.makeSlice 23 (.int .i64 0) (.int .i64 (2 * (n : Int)))).run Yba.prog w = .ok (.slice (some ⟨w.heap.size, 0, none⟩) 0 (2 * n)) (w.alloc (.cells c 5)) :=
  ⟨madeCells #[.int .u8 0] (2 * n), size_madeCells _ _, fun w => run_make_room 23 5 (.int .u8 0) 1 Yba.underlying23 inf5 rfl .i64 .i64 (2 * n) (by omega) (by omega) w⟩

theorem made28 (n : Nat) (hn : n ≤ 600) : ∃ c : Array Value, c.size = n * 36 ∧ ∀ w : World, (Instr.makeSlice 28 (.int .i64 (n : Int)) (.int .i64 (n : Int))).run Yba.prog w = .ok (.slice (some ⟨w.heap.size, 0, none⟩) n n) (w.alloc (.cells c 40)) := by
  obtain ⟨i, hi, hzz⟩ := Option.map_eq_some_iff.1 inf40
  simp only [Prod.mk.injEq] at hzz
  obtain ⟨hz, hs, hb⟩ := hzz
  obtain ⟨z, hz⟩ := Option.isSome_iff_exists.1 hz
  have hb := of_decide_eq_true hb
  have hb2 : (i.bytes : Int) * (n : Int) ≤ 281474976710656 := by
    have : i.bytes * n ≤ 10000 * 600 := Nat.mul_le_mul hb hn
    have h : ((i.bytes * n : Nat) : Int) ≤ 281474976710656 := by omega
    rwa [Int.natCast_mul] at h
  refine ⟨madeCells z.cells (n * 36), size_madeCells _ _, fun w => ?_⟩
  have hr := run_make (P := Yba.prog) w 28 40 i z Yba.underlying28 hi hz .i64 .i64 n n (by omega) (Int.le_refl _) hb2 (by omega)
  simp only [Int.toNat_natCast, hs] at hr
  exact hr

/-- A row of cells as it lies. -/
theorem row_new (w : World) (c : Array Value) (t : TypeId) (n : Nat) (h : c.size = n) : (w.alloc (.cells c t)).rowIs w.heap.size t n (fun k => c[k]?.getD undef) := by
  subst h
  exact World.rowIs_alloc w c t _ fun i hi => by simp [hi]

def gG (st : Nat → Nat) (i : Nat) : Nat := gOf st (i + 1)
def keyL : Nat → List Value
  | 0 => []
  | i + 1 => keyL i ++ [.int .u8 (kb0 i), .int .u8 (kb1 i)]
theorem keyL_len : ∀ i, (keyL i).length = 2 * i
  | 0 => rfl
  | i + 1 => by show (keyL i ++ _).length = _; rw [List.length_append, keyL_len i]; simp; omega
theorem keyL_at : ∀ n i, i < n → (keyL n)[2 * i]? = some (.int .u8 (kb0 i)) ∧ (keyL n)[2 * i + 1]? = some (.int .u8 (kb1 i))
  | 0, i, h => absurd h (by omega)
  | n + 1, i, h => by
    show (keyL n ++ _)[2 * i]? = _ ∧ (keyL n ++ _)[2 * i + 1]? = _
    by_cases c : i < n
    · rw [List.getElem?_append_left (by rw [keyL_len]; omega), List.getElem?_append_left (by rw [keyL_len]; omega)]
      exact keyL_at n i c
    · have e : i = n := by omega
      subst e
      rw [List.getElem?_append_right (by rw [keyL_len]; omega), List.getElem?_append_right (by rw [keyL_len]; omega), keyL_len]
      rw [show 2 * i - 2 * i = 0 by omega, show 2 * i + 1 - 2 * i = 1 by omega]
      exact ⟨rfl, rfl⟩

theorem owns_cell {w : World} {base : Nat} {e : TypeId} {g n cap : Nat} {xs : List Value} (h : w.ownsRow base e 1 (.slice (some ⟨g, 0, none⟩) n cap) n xs) (i : Nat) (v : Value) (hv : xs[i]? = some v) : w.cell? ⟨g, i, none⟩ = some v := by
  obtain ⟨hl, h⟩ := h
  rcases h with ⟨h, _⟩ | ⟨g', cap', cur, h, _, hg, _, _, hs, ht⟩
  · cases h
  · cases h
    rw [← ht] at hv
    rw [List.getElem?_take] at hv
    split at hv
    · simp [World.cell?, hg]
      simpa using hv
    · cases hv

theorem two_new (w : World) (a b : Value) (t : TypeId) : ∀ j u, [a, b][j]? = some u → (w.alloc (.cells #[a, b] t)).cell? ((⟨w.heap.size, 0, none⟩ : Addr).add j) = some u := by
  intro j u h
  match j with
  | 0 => cases h; show World.cell? _ ⟨_, 0 + 0, _⟩ = _; go_simp
  | 1 => cases h; show World.cell? _ ⟨_, 0 + 1, _⟩ = _; go_simp
  | j + 2 => simp at h

/-- What the first loop leaves. -/
structure LoopA (w wr : World) (n i : Nat) (st : Nat → Nat) (f : Nat → Value) : Prop where
  gs : wr.rowIs w.heap.size 3 n (fun k => if k < i then .int .i64 (gG st k : Nat) else f k)
  ch : wr.ownsRow w.heap.size 5 1 (.slice (some ⟨w.heap.size + 1, 0, none⟩) (2 * i) (2 * n)) (2 * i) (keyL i)
  bel : Below w.heap.size w wr
  size : w.heap.size + 2 ≤ wr.heap.size

theorem LoopA.start (w : World) (n : Nat) (hn : n ≤ 600) (c1 c2 : Array Value) (h1 : c1.size = n) (h2 : c2.size = 2 * n) (st : Nat → Nat) : LoopA w ((w.alloc (.cells c1 3)).alloc (.cells c2 5)) n 0 st (fun k => c1[k]?.getD undef) := by
  refine ⟨((row_new w c1 3 n h1).alloc _).congr fun i _ => by simp, ?_, ((Below.refl _ _).alloc (Nat.le_refl _) _).alloc (by simp) _, by simp⟩
  have := World.ownsRow_made (w.alloc (.cells c1 3)) c2 (e := 5) (size := 1) (base := w.heap.size) (2 * n) (by simp) (by unfold maxLen; omega) (by omega)
  simpa [keyL] using this

theorem LoopA.step {w wr : World} {n i : Nat} {st : Nat → Nat} {f : Nat → Value} (h : LoopA w wr n i st f) (hi : i < n) {w1 : World}
    (ho : w1.ownsRow w.heap.size 5 1 (.slice (some ⟨w.heap.size + 1, 0, none⟩) (2 * i + 2) (2 * n)) (2 * i + 2) (keyL i ++ [.int .u8 (kb0 i), .int .u8 (kb1 i)]))
    (o : Obj) (hg : ((wr.setCell ⟨w.heap.size, i, none⟩ (.int .i64 (gG st i : Nat))).alloc o).grownBy w1 (some (w.heap.size + 1))) : LoopA w w1 n (i + 1) st f := by
  have hsz := h.size
  refine ⟨?_, ho, ?_, ?_⟩
  · have h1 := ((h.gs.set i (.int .i64 (gG st i : Nat))).alloc o)
    refine (h1.of_block (hg.block _ h1.lt (by simp))).congr fun k hk => ?_
    by_cases e : k = i
    · subst e; rw [if_pos rfl, if_pos (by omega)]
    · rw [if_neg e]
      by_cases c : k < i
      · rw [if_pos c, if_pos (by omega)]
      · rw [if_neg c, if_neg (by omega)]
  · have hb := (h.bel.setCell (p := ⟨w.heap.size, i, none⟩) (Nat.le_refl _) (.int .i64 (gG st i : Nat))).alloc (by simp; omega) o
    exact ⟨hg.os.trans hb.os, hg.tape.trans hb.tape, hg.output.trans hb.output, Nat.le_trans hb.size hg.size, fun k hk => (hg.block k (by simp; omega) (by simp; omega)).trans (hb.block k hk)⟩
  · refine Nat.le_trans ?_ hg.size
    simp; omega

theorem LoopA.step' {w wr : World} {n i : Nat} {st : Nat → Nat} {f : Nat → Value} (h : LoopA w wr n i st f) (hi : i < n) {w1 : World} (gi : Int) (hgi : gi = ((gG st i : Nat) : Int))
    (ho : w1.ownsRow w.heap.size 5 1 (.slice (some ⟨w.heap.size + 1, 0, none⟩) (2 * i + 2) (2 * n)) (2 * i + 2) (keyL i ++ [.int .u8 (97 + (i : Int) / 26), .int .u8 (97 + (i : Int) % 26)]))
    (o : Obj) (hg : ((wr.setCell ⟨w.heap.size, i, none⟩ (.int .i64 gi)).alloc o).grownBy w1 (some (w.heap.size + 1))) : LoopA w w1 n (i + 1) st f := by
  subst hgi
  exact h.step hi (by simpa [kb0, kb1] using ho) o hg

end Go.Proofs.Ybulkbtqm

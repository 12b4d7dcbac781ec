import Derived.Test.YbulkbtkoGreatFmtSteps
namespace Go.Proofs.YbulkbtkoGreatFmt
open Go.RowKit
set_option linter.unusedVariables false
set_option linter.unusedSimpArgs false

/-- What an answer leaves: who is heard of, the fresh, is this node named, who is wanted. -/
structure PS where
  seen : Nat → Bool
  fresh : List Nat
  held : Bool
  want : Nat → Bool
def PS.hear (p : PS) (j : Nat) : PS := if p.seen j then p else { p with seen := setB p.seen j, fresh := p.fresh ++ [j] }
def PS.st1 (s : Nat) (p : PS) (j : Nat) : PS := if j = s then { p with held := true } else p.hear j
def PS.st2 (q : Bool) (p : PS) (j : Nat) : PS := if q then { p.hear j with want := setB p.want j } else p
def p1 (s : Nat) (seen0 : Nat → Bool) (nf : Nat → Nat) : Nat → PS
  | 0 => ⟨seen0, [], false, fun _ => false⟩
  | k + 1 => (p1 s seen0 nf k).st1 s (nf k)
def bq (cI : Nat → Int) (id : Nat → Nat) (s snd j : Nat) (x : Int) : Bool := decide (cI j < x ∨ (cI j = x ∧ id s < id snd))
def p2 (p0 : PS) (q : Nat → Bool) (bf : Nat → Nat) : Nat → PS
  | 0 => p0
  | k + 1 => (p2 p0 q bf k).st2 (q k) (bf k)

/-- The state as the plain words have it. -/
def EP (X : Cx) (w wr : World) (p : PS) (K : Nat) (fv : Value) : Prop := EHx X w wr p.seen p.fresh p.fresh p.held p.want K fv

variable {X : Cx} {w wr w' : World} {p : PS} {K : Nat} {fv : Value}
theorem EP.more (h : EP X w wr p K fv) {K' : Nat} (hK : K ≤ K') : EP X w wr p K' fv := by
  obtain ⟨v, ed, r, h⟩ := h
  exact ⟨v, ed, r, h.more hK⟩
theorem EP.fown (h : EP X w wr p K fv) : wr.ownsRow 0 3 1 fv p.fresh.length (intsL p.fresh) := by
  obtain ⟨v, ed, r, h⟩ := h
  exact h.fown
theorem EP.fr (h : EP X w wr p K fv) : Fr w wr (X.nb :: X.jb :: X.hb :: X.qb :: ob X.v0) := by
  obtain ⟨v, ed, r, h⟩ := h
  exact h.fr
theorem EP.len (h : EP X w wr p K fv) : p.fresh.length ≤ K := by
  obtain ⟨v, ed, r, h⟩ := h
  exact h.len
theorem EP.self (h : EP X w wr p K fv) : wr.cell? ⟨X.nb, 0, none⟩ = some (.int .i64 ((X.s : Nat) : Int)) := by
  obtain ⟨v, ed, r, h⟩ := h
  exact (h.node.row.cell (by omega)).trans (by simp [ndF, h.node.r0])
theorem EP.ids (h : EP X w wr p K fv) : wr.cell? ⟨X.nb, 1, none⟩ = some (.slice (some ⟨X.ib, 0, none⟩) X.N X.N) := by
  obtain ⟨v, ed, r, h⟩ := h
  exact (h.node.row.cell (by omega)).trans (by simp [ndF, h.node.r1])
theorem EP.cost (h : EP X w wr p K fv) : wr.cell? ⟨X.nb, 2, none⟩ = some (.func (.func 11) #[] #[.pointer (some ⟨X.vb, 0, none⟩)]) := by
  obtain ⟨v, ed, r, h⟩ := h
  exact (h.node.row.cell (by omega)).trans (by simp [ndF, h.node.r2])
theorem EP.net (h : EP X w wr p K fv) (hB : EB X w) : Net wr X.ib X.cb X.vb X.N X.id X.cw := by
  obtain ⟨v, ed, r, h⟩ := h
  exact hB.netE h
theorem EP.keep (h : EP X w wr p K fv) (hf : Fr wr w' []) : EP X w w' p K fv := by
  obtain ⟨v, ed, r, h⟩ := h
  exact ⟨v, ed, r, h.keep hf⟩
theorem EP.js260 (h : EP X w wr p K fv) (hB : EB X w) : wr.cell? ⟨X.jb, 260, none⟩ = some (.map (some X.qb)) := by
  obtain ⟨v, ed, r, h⟩ := h
  exact (h.jrow.cell (by omega)).trans (by simp [putF, hB.j260])
theorem EP.callHeld (h : EP X w wr p K fv) (hB : EB X w) :
    Calls Ybaz.prog 13 #[.pointer (some ⟨X.nb, 0, none⟩), .int .i64 ((X.snd : Nat) : Int)] wr fun e w' => e = .returned (.tuple #[]) ∧ EP X w w' { p with held := true } (K + 1) fv :=
  (EHx.callHeld h hB).mono fun e w' ⟨h1, h2⟩ => ⟨h1, EP.more (p := { p with held := true }) h2 (by omega)⟩

/-- Behind hearOf at a new node, ahead of the append. -/
def EA (X : Cx) (w wr : World) (p : PS) (j K : Nat) (fv : Value) : Prop := EHx X w wr (setB p.seen j) (p.fresh ++ [j]) p.fresh p.held p.want K fv
theorem EP.callNew (h : EP X w wr p K fv) (hB : EB X w) {j : Nat} (hj : j < X.N) (hseen : p.seen j = false) (hK : K ≤ 1000) {wq : World} (hq : Fr wr wq []) :
    Calls Ybaz.prog 14 #[.pointer (some ⟨X.jb, 0, none⟩), .pointer (some ⟨X.nb, 0, none⟩), .int .i64 ((j : Nat) : Int)] wq fun e w' => e = .returned (.bool true) ∧ EA X w w' p j (K + 1) fv ∧ ∀ b, wr.heap.size ≤ b → b < wq.heap.size → w'.heap[b]? = wq.heap[b]? :=
  EHx.callNew h hB hj hseen hK h.len hq
theorem EA.fown {j : Nat} (h : EA X w wr p j K fv) : wr.ownsRow 0 3 1 fv p.fresh.length (intsL p.fresh) := by
  obtain ⟨v, ed, r, h⟩ := h
  exact h.fown
theorem EA.keep {j : Nat} (h : EA X w wr p j K fv) (hf : Fr wr w' []) : EA X w w' p j K fv := by
  obtain ⟨v, ed, r, h⟩ := h
  exact ⟨v, ed, r, h.keep hf⟩
theorem EA.app {j g cap : Nat} (h : EA X w wr p j K fv) (hB : EB X w) (hj : j < X.N) (hseen : p.seen j = false) (hK : p.fresh.length < K) (hown : w'.ownsRow 0 3 1 (.slice (some ⟨g, 0, none⟩) (p.fresh.length + 1) cap) (p.fresh.length + 1) (intsL p.fresh ++ [.int .i64 ((j : Nat) : Int)])) (hf : Fr wr w' (ob fv)) (hg : g ∈ ob fv ∨ wr.heap.size ≤ g) :
    EP X w w' (p.hear j) K (.slice (some ⟨g, 0, none⟩) (p.fresh.length + 1) cap) := by
  obtain ⟨v, ed, r, h⟩ := h
  have e : p.hear j = { p with seen := setB p.seen j, fresh := p.fresh ++ [j] } := by simp [PS.hear, hseen]
  rw [e]
  exact ⟨v, ed, r, h.app hj hK hown hf hg hB⟩
theorem EP.fout (h : EP X w wr p K fv) : ∀ g ∈ ob fv, g < wr.heap.size := own_lt h.fown
theorem EP.want (h : EP X w wr p K fv) (hB : EB X w) {j : Nat} (hj : j < X.N) (hK : K ≤ 1000) :
    ∃ w', (Instr.mapUpdate 41 (.map (some X.qb)) (.int .i64 ((j : Nat) : Int)) (.bool true)).run Ybaz.prog wr = .ok () w' ∧ EP X w w' { p with want := setB p.want j } (K + 1) fv ∧ MapOnly wr w' X.qb := by
  obtain ⟨v, ed, r, h⟩ := h
  have hN := hB.hN
  obtain ⟨w', hrun, hset, hmo⟩ := h.wanted.put (j := (j : Int)) (iwf (by omega) (by omega)) (by have : maxLen = 9223372036854775807 := rfl; omega)
  exact ⟨w', hrun, ⟨v, ed, r, (h.more (K' := K + 1) (by omega)).wantP hB (c := 0) (S := fun _ => false) hj hset (by omega) hmo⟩, hmo⟩

end Go.Proofs.YbulkbtkoGreatFmt

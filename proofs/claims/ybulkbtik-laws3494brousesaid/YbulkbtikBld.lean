import Derived.Test.YbulkbtikLawC
namespace Go.Proofs.Ybulkbtik
open Go.Conc Go.RowKit Go.MuLone
set_option linter.unusedVariables false
set_option linter.unusedSimpArgs false

/-- What holds at the head of the first loop's round i: the run, the row of workers, i workers. -/
structure BldAt (w wr : World) (rb sb n : Nat) (lo : Nat → Nat) (has woken : Nat → Bool) (x : Nat → Int) (g c : Nat → Value) (i : Nat) : Prop where
  run : wr.rowIs rb 106 307 g
  ws : wr.rowIs sb 24 n (fun k => if k < i then .pointer (some ⟨lo k + 1, 0, none⟩) else c k)
  rbsb : rb < sb
  wrb : w.heap.size ≤ rb
  sblo : sb < lo 0
  top : lo i = wr.heap.size
  wk : ∀ k, k < i → ∃ f, Wk wr rb (lo k) (lo (k + 1)) (has k) (x k) (woken k) true f
  bel : Below w.heap.size w wr

theorem BldAt.mono {w wr : World} {rb sb n : Nat} {lo : Nat → Nat} {has woken : Nat → Bool} {x : Nat → Int} {g c : Nat → Value} {i : Nat} (h : BldAt w wr rb sb n lo has woken x g c i) : ∀ k, k < i → lo k < lo (k + 1) := fun k hk => by
  obtain ⟨f, hf⟩ := h.wk k hk
  have := hf.lt
  omega

def loUp (lo : Nat → Nat) (i v : Nat) : Nat → Nat := fun k => if k ≤ i then lo k else v

theorem BldAt.step {w wr w' : World} {rb sb n : Nat} {lo : Nat → Nat} {has woken : Nat → Bool} {x : Nat → Int} {g c f : Nat → Value} {i : Nat} (h : BldAt w wr rb sb n lo has woken x g c i) (hi : i < n)
    (hB : Below wr.heap.size wr w') (hw : Wk w' rb wr.heap.size w'.heap.size (has i) (x i) (woken i) true f) :
    ∃ lo', BldAt w (w'.setCell ⟨sb, i, none⟩ (.pointer (some ⟨wr.heap.size + 1, 0, none⟩))) rb sb n lo' has woken x g c (i + 1) := by
  refine ⟨loUp lo i w'.heap.size, ?_⟩
  have hsb := h.ws.lt
  have hrb := h.run.lt
  have hrs := h.rbsb
  have hlo := h.sblo
  have htop := h.top
  have hle : ∀ k, k ≤ i → lo 0 ≤ lo k := fun k hk => lo_le h.mono (Nat.zero_le _) hk
  have hset : ∀ k, k ≠ sb → (w'.setCell ⟨sb, i, none⟩ (.pointer (some ⟨wr.heap.size + 1, 0, none⟩))).heap[k]? = w'.heap[k]? := fun k hk => Below.heap_setCell _ _ _ _ hk
  have hfar : ∀ k, k < wr.heap.size → k ≠ sb → (w'.setCell ⟨sb, i, none⟩ (.pointer (some ⟨wr.heap.size + 1, 0, none⟩))).heap[k]? = wr.heap[k]? := fun k h1 h2 => (hset k h2).trans (hB.block k h1)
  refine ⟨h.run.of_block (hfar rb hrb (by omega)), ?_, hrs, h.wrb, by simp [loUp]; exact hlo, by unfold loUp; rw [if_neg (by omega)]; simp, fun k hk => ?_, ?_⟩
  · refine ((h.ws.of_block (hB.block sb hsb)).set i _).congr fun k hk => ?_
    by_cases c1 : k = i
    · subst c1
      simp [loUp, htop]
    · by_cases c2 : k < i
      · rw [if_neg c1, if_pos c2, if_pos (by omega)]
        simp [loUp, show k ≤ i by omega]
      · rw [if_neg c1, if_neg c2, if_neg (by omega)]
  · by_cases c1 : k = i
    · subst c1
      have e1 : loUp lo k w'.heap.size k = wr.heap.size := by simp [loUp, htop]
      have e2 : loUp lo k w'.heap.size (k + 1) = w'.heap.size := by unfold loUp; rw [if_neg (by omega)]
      rw [e1, e2]
      exact ⟨f, hw.stays fun j h1 _ => hset j (by omega)⟩
    · obtain ⟨f', hf'⟩ := h.wk k (by omega)
      have e1 : loUp lo i w'.heap.size k = lo k := by simp [loUp, show k ≤ i by omega]
      have e2 : loUp lo i w'.heap.size (k + 1) = lo (k + 1) := by simp [loUp, show k + 1 ≤ i by omega]
      rw [e1, e2]
      have h0k := hle k (by omega)
      have hki : lo (k + 1) ≤ lo i := lo_le h.mono (by omega) (Nat.le_refl _)
      exact ⟨f', hf'.stays fun j h1 h2 => hfar j (by omega) (by omega)⟩
  · exact (below_more h.bel hB).setCell (by show w.heap.size ≤ sb; have := h.wrb; omega) _

theorem BldAt.grp {w wr : World} {rb sb n : Nat} {lo : Nat → Nat} {has woken : Nat → Bool} {x : Nat → Int} {g c : Nat → Value} (h : BldAt w wr rb sb n lo has woken x g c n) (g14 : g 14 = .slice (some ⟨sb, 0, none⟩) n n) : Grp wr rb sb n lo has woken x (fun _ => true) g where
  run := h.run
  g14 := g14
  ws := h.ws.congr fun k hk => by rw [if_pos hk]
  rbsb := h.rbsb
  sblo := h.sblo
  top := Nat.le_of_eq h.top
  wk := h.wk

end Go.Proofs.Ybulkbtik

import Derived.Test.YbulkbtkoRows
import Derived.Test.YbulkbtkoPlain
import Derived.WalkKit
import Derived.WalkSpells
import Derived.Maps.OwnSet
import Derived.Maps.OwnOps
import Derived.BigQuiet
import Derived.Deep.QuietTactic
import Derived.Below
namespace Go.Proofs.Ybulkbtko
open Go.RowKit Go.Maps

/-- A slice of integers of kind k, as read: no element, or a row of cells. -/
def Row (k : IntKind) (w : World) (a : Option Addr) (zs : List Int) : Prop :=
  zs.length = 0 ∨ ∃ b o, a = some ⟨b, o, none⟩ ∧ b < w.heap.size ∧ ∀ i, i < zs.length → w.cell? ⟨b, o + i, none⟩ = some (.int k (at0 zs i))

theorem Row.later {k : IntKind} {w w' : World} {a : Option Addr} {zs : List Int} (h : Row k w a zs) (hb : Below w.heap.size w w') : Row k w' a zs := by
  rcases h with h | ⟨b, o, rfl, hlt, hc⟩
  · exact .inl h
  · exact .inr ⟨b, o, rfl, Nat.lt_of_lt_of_le hlt hb.size, fun i hi => (hb.cell (p := ⟨b, o + i, none⟩) hlt).trans (hc i hi)⟩

theorem wf_at0 {k : IntKind} {zs : List Int} (h : ∀ n ∈ zs, (Lit.int k n).wf = true) (i : Nat) : (Lit.int k (at0 zs i)).wf = true := by
  unfold at0
  by_cases hi : i < zs.length
  · rw [List.getD, List.getElem?_eq_getElem hi]; exact h _ (List.getElem_mem hi)
  · rw [List.getD, List.getElem?_eq_none (by omega)]; cases k <;> decide

/-- n is the smaller of two lengths, as the Go text takes it. -/
def IsMin (a b n : Nat) : Prop := (b < a ∧ n = b) ∨ (¬ b < a ∧ n = a)
theorem isMin_min (a b : Nat) : IsMin a b (min a b) := by unfold IsMin; omega
theorem IsMin.le {a b n : Nat} (h : IsMin a b n) : n ≤ a ∧ n ≤ b := by unfold IsMin at h; omega

theorem hide {p : Prop} (h : p) : Hid p := h
theorem unhide {p : Prop} (h : Hid p) : p := h

end Go.Proofs.Ybulkbtko

import Derived.Test.YbulkbtkoBase
import Derived.OpenShut
namespace Go.Proofs.Ybulkbtko
open Go.RowKit

theorem rowOf {k : IntKind} {w : World} {a : Option Addr} {len cap : Nat} {zs : List Int}
    (h : (a = Option.none ∧ len = 0 ∧ cap = 0 ∧ zs = []) ∨
      ∃ x, a = some x ∧ len ≤ cap ∧ cap ≤ maxLen ∧ zs.length = cap ∧ (∀ i, i < zs.length → w.cell? (x.add i) = some (.int k (zs.getD i 0))) ∧ ∀ n ∈ zs, (Lit.int k n).wf = true) :
    ∃ ys : List Int, ys.length = len ∧ Row k w a ys ∧ (∀ n ∈ ys, (Lit.int k n).wf = true) ∧ len ≤ maxLen := by
  rcases h with ⟨_, rfl, _, _⟩ | ⟨x, rfl, hl, hm, hz, hc, hw⟩
  · exact ⟨[], rfl, .inl rfl, (fun n hn => by cases hn), Nat.zero_le _⟩
  · refine ⟨zs.take len, by simp; omega, ?_, fun n hn => hw n (List.mem_of_mem_take hn), Nat.le_trans hl hm⟩
    by_cases h0 : 0 < zs.length
    · obtain ⟨b, o, rfl, hc'⟩ := ints_at hc h0
      refine .inr ⟨b, o, rfl, World.block_lt_of_cell? _ _ (hc' 0 h0), fun i hi => ?_⟩
      simp only [List.length_take] at hi
      rw [hc' i (by omega)]
      simp only [at0, List.getD, List.getElem?_take, show i < len by omega, if_true]
    · refine .inl (by simp; omega)

end Go.Proofs.Ybulkbtko

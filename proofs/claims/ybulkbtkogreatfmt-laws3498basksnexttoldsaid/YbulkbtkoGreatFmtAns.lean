import Derived.Test.YbulkbtkoGreatFmtEntW
namespace Go.Proofs.YbulkbtkoGreatFmt
open Go.RowKit
set_option linter.unusedVariables false
set_option linter.unusedSimpArgs false

/-- 'answered' where another answer is awaited still. -/
theorem answered_left {w : World} {nb jb zb m c : Nat} {S : Int → Bool} (c518 : w.cell? ⟨nb, 518, none⟩ = some (.pointer (some ⟨jb, 0, none⟩))) (c263 : w.cell? ⟨jb, 263, none⟩ = some (.map (some zb))) (hset : SetAt w zb m S c) (hjz : jb ≠ zb) {j : Int} (wj : (Lit.int .i64 j).wf = true)
    (hc : c - (if S j then 1 else 0) ≠ 0) (f : Value) :
    Calls Ybaz.prog 17 #[.pointer (some ⟨nb, 0, none⟩), .int .i64 j, f] w fun e w' => e = .returned (.tuple #[]) ∧ SetAt w' zb m (fun k => !decide (k = j) && S k) (c - (if S j then 1 else 0)) ∧ MapOnly w w' zb := by
  obtain ⟨w', hdel, hset', hmo⟩ := hset.del (j := j) wj 0
  obtain ⟨d, hd⟩ : ∃ d, c - (if S j then 1 else 0) = d := ⟨_, rfl⟩
  rw [hd] at hset' hc ⊢
  have d263 : w'.cell? ⟨jb, 263, none⟩ = some (.map (some zb)) := (World.cell?_of_block (a := ⟨jb, 263, none⟩) (hmo.block hjz)).trans c263
  have hln := fun ty => hset'.len ty
  have t1 : ((d : Int) == 0) = false := by simp; omega
  have t2 : ¬ ((d : Int) = 0) := by omega
  have Hset := hide hset'
  have Hmo := hide hmo
  clear hset hset' hmo hd
  go_enter Ybaz.func17, Ybaz.ntmps17
  go_wp2_with fail
  go_end0
  exact ⟨rfl, unhide Hset, unhide Hmo⟩

end Go.Proofs.YbulkbtkoGreatFmt

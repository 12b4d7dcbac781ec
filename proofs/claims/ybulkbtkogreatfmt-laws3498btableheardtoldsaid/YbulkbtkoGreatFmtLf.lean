import Derived.Test.YbulkbtkoGreatFmtFz
namespace Go.Proofs.YbulkbtkoGreatFmt
open Go.RowKit
set_option linter.unusedVariables false
set_option linter.unusedSimpArgs false

variable {w wb w4 : World} {wsb cab : Nat} {X : Cx} {Y : Ex} {fv : Value}

/-- 'entriesHeard' where another answer is awaited still. -/
theorem law_entries (hW : BW w wb wsb X Y fv) (f4 : Fr wb w4 [Y.zb]) (hz4 : SetAt w4 Y.zb 2 (fun k => decide (k = -5) || (decide (k = ((X.snd : Nat) : Int)) || false)) 2) (hcab : w4.cell? ⟨cab, 0, none⟩ = some (.int .i64 0)) (hge : wb.heap.size ≤ cab) :
    Calls Ybaz.prog 6 #[.pointer (some ⟨X.nb, 0, none⟩), .agg Y.mc, .func (.func 7) #[] #[.pointer (some ⟨cab, 0, none⟩)]] w4 fun e w' => e = .returned (.tuple #[]) ∧ ∃ v T C ed r, FZ w w' wsb cab X Y fv v T C ed r := by
  have hK := hW.bk
  have st := hK.st
  have hzf := st.far Y.zb (by simp)
  have h4 : E0s X Y w4 := hK.e0.fr f4 (by simp; exact hzf)
  have h40 : E0 X w4 Y.ab Y.nsb Y.ncap Y.bb Y.nn Y.bn Y.m0 Y.m1 Y.nf Y.bf Y.bw Y.bx Y.seen0 Y.l Y.ed Y.mc Y.ba Y.bcap := h4
  refine entries_any (R := fun w' => ∃ v T C ed r, FZ w w' wsb cab X Y fv v T C ed r) h40 _ (fun wB w1 v T C ed r hFB hsB hP => ?_)
  have hsnd := h40.eb.hsnd
  have hN := h40.eb.hN
  have hzab : Y.zb ∉ [Y.ab] := by simp; exact fun e => hzf.o (by simp [e])
  have hzP : Y.zb ∉ X.nb :: X.jb :: X.hb :: X.qb :: ob X.v0 := fun hm => by
    simp only [List.mem_cons] at hm
    rcases hm with h1 | h1 | h1 | h1 | h1
    · exact hzf.a (by simp [h1])
    · exact hzf.a (by simp [h1])
    · exact hzf.a (by simp [h1])
    · exact hzf.a (by simp [h1])
    · exact hzf.v h1
  have hzB := hz4.of_block (hFB.block _ hz4.lt hzab)
  have hz1 := hzB.of_block (hP.fr.block _ hzB.lt hzP)
  have c518 : w1.cell? ⟨X.nb, 518, none⟩ = some (.pointer (some ⟨X.jb, 0, none⟩)) := (hP.node.row.cell (by omega)).trans (by simp [ndF, hP.rr 518 (by omega), h40.r518])
  have c263 : w1.cell? ⟨X.jb, 263, none⟩ = some (.map (some Y.zb)) := (hP.jrow.cell (by omega)).trans (by simp [putF, st.j263])
  have hjz : X.jb ≠ Y.zb := fun e => hzf.a (by simp [← e])
  have hS : (decide (((X.snd : Nat) : Int) = -5) || (decide (((X.snd : Nat) : Int) = ((X.snd : Nat) : Int)) || false)) = true := by simp
  refine (answered_left c518 c263 hz1 hjz (j := ((X.snd : Nat) : Int)) (iwf (by omega) (by omega)) (by rw [hS]; decide) _).mono ?_
  rintro e w' ⟨he, hset, hmo⟩
  rw [hS] at hset
  have hset2 : SetAt w' Y.zb 2 (fun k => decide (k = -5)) 1 := hset.congr fun k => by
    by_cases c : k = ((X.snd : Nat) : Int)
    · have h5 : ¬ ((X.snd : Nat) : Int) = -5 := by omega
      subst c
      simp [h5]
    · simp [c]
  exact ⟨he, v, T, C, ed, r, FZ.of hW f4 hcab hge hFB hsB hP hset2 hmo st.lowE⟩

end Go.Proofs.YbulkbtkoGreatFmt

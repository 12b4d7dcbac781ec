import Derived.Test.YbulkbtkoGreatFmtAn0
import Derived.Test.YbulkbtkoGreatFmtB0
import Derived.Test.YbulkbtkoGreatFmtExp
namespace Go.Proofs.YbulkbtkoGreatFmt
open Go.RowKit
set_option linter.unusedVariables false
set_option linter.unusedSimpArgs false

/-- 'answered' where no other answer is awaited: the next nodes are asked. -/
theorem answered_last {w : World} {nb jb zb m c : Nat} {S : Int → Bool} (c518 : w.cell? ⟨nb, 518, none⟩ = some (.pointer (some ⟨jb, 0, none⟩))) (c263 : w.cell? ⟨jb, 263, none⟩ = some (.map (some zb))) (hset : SetAt w zb m S c) (hjz : jb ≠ zb) {j : Int} (wj : (Lit.int .i64 j).wf = true)
    (hc : c - (if S j then 1 else 0) = 0) (f : Value) {R : World → Prop} (hnext : ∀ w', SetAt w' zb m (fun k => !decide (k = j) && S k) 0 → MapOnly w w' zb → Calls Ybaz.prog 26 #[.pointer (some ⟨nb, 0, none⟩), f] w' fun e w'' => e = .returned (.tuple #[]) ∧ R w'') :
    Calls Ybaz.prog 17 #[.pointer (some ⟨nb, 0, none⟩), .int .i64 j, f] w fun e w'' => e = .returned (.tuple #[]) ∧ R w'' := by
  obtain ⟨w', hdel, hset', hmo⟩ := hset.del (j := j) wj 0
  rw [hc] at hset'
  have d263 : w'.cell? ⟨jb, 263, none⟩ = some (.map (some zb)) := (World.cell?_of_block (a := ⟨jb, 263, none⟩) (hmo.block hjz)).trans c263
  have hln := fun ty => hset'.len ty
  have Hnext := hide (hnext w' hset' hmo)
  clear hset hset' hmo hc hnext
  go_enter Ybaz.func17, Ybaz.ntmps17
  go_wp2_with (go_at_call 26; refine (unhide Hnext).mono ?_; rintro e w2 ⟨rfl, hR'⟩; have hR := hide hR'; clear hR')
  go_end0
  exact ⟨rfl, unhide hR⟩

theorem st1_nd {s N : Nat} {seen0 : Nat → Bool} {p : PS} {j : Nat} (hj : j < N) (h1 : p.fresh.Nodup) (h2 : ∀ i ∈ p.fresh, i < N ∧ seen0 i = false ∧ p.seen i = true) (h3 : ∀ i, seen0 i = true → p.seen i = true) :
    (p.hear j).fresh.Nodup ∧ (∀ i ∈ (p.hear j).fresh, i < N ∧ seen0 i = false ∧ (p.hear j).seen i = true) ∧ ∀ i, seen0 i = true → (p.hear j).seen i = true := by
  unfold PS.hear
  split
  · exact ⟨h1, h2, h3⟩
  · rename_i hs
    refine ⟨?_, fun i hi => ?_, fun i hi => by simp [setB, h3 i hi]⟩
    · refine List.nodup_append.2 ⟨h1, by simp, ?_⟩
      intro a ha b hb e
      simp at hb
      subst hb e
      exact hs (h2 a ha).2.2
    · rcases List.mem_append.1 hi with h | h
      · exact ⟨(h2 i h).1, (h2 i h).2.1, by simp [setB, (h2 i h).2.2]⟩
      · simp at h
        subst h
        refine ⟨hj, ?_, by simp [setB]⟩
        cases e : seen0 i
        · rfl
        · exact absurd (h3 i e) hs
theorem p1_nd {s N : Nat} {seen0 : Nat → Bool} {nf : Nat → Nat} (hnf : ∀ i, nf i < N) : ∀ k, (p1 s seen0 nf k).fresh.Nodup ∧ (∀ i ∈ (p1 s seen0 nf k).fresh, i < N ∧ seen0 i = false ∧ (p1 s seen0 nf k).seen i = true) ∧ ∀ i, seen0 i = true → (p1 s seen0 nf k).seen i = true
  | 0 => ⟨by simp [p1], by simp [p1], fun i h => h⟩
  | k + 1 => by
    obtain ⟨h1, h2, h3⟩ := p1_nd hnf k
    simp only [p1, PS.st1]
    split
    · exact ⟨h1, h2, h3⟩
    · exact st1_nd (s := s) (hnf k) h1 h2 h3
theorem p2_nd {N : Nat} {seen0 : Nat → Bool} {p0 : PS} {q : Nat → Bool} {bf : Nat → Nat} (hbf : ∀ i, bf i < N) (h0 : p0.fresh.Nodup ∧ (∀ i ∈ p0.fresh, i < N ∧ seen0 i = false ∧ p0.seen i = true) ∧ ∀ i, seen0 i = true → p0.seen i = true) : ∀ k, (p2 p0 q bf k).fresh.Nodup ∧ (∀ i ∈ (p2 p0 q bf k).fresh, i < N ∧ seen0 i = false ∧ (p2 p0 q bf k).seen i = true) ∧ ∀ i, seen0 i = true → (p2 p0 q bf k).seen i = true
  | 0 => h0
  | k + 1 => by
    obtain ⟨h1, h2, h3⟩ := p2_nd hbf h0 k (q := q)
    simp only [p2, PS.st2]
    split
    · exact st1_nd (s := 0) (hbf k) h1 h2 h3
    · exact ⟨h1, h2, h3⟩
theorem nodes_nd {w w' : World} {wsb : Nat} {X : Cx} {Y : Ex} {fv : Value} (hW : BW w w' wsb X Y fv) : (X.l0 ++ (PSof X Y).fresh).Nodup ∧ ∀ j ∈ X.l0 ++ (PSof X Y).fresh, j < X.N := by
  have h0 : E0 X w' Y.ab Y.nsb Y.ncap Y.bb Y.nn Y.bn Y.m0 Y.m1 Y.nf Y.bf Y.bw Y.bx Y.seen0 Y.l Y.ed Y.mc Y.ba Y.bcap := hW.bk.e0
  have st := hW.bk.st
  have h := p2_nd (q := fun i => bq X.cI X.id X.s X.snd (Y.bf i) (Y.bx i)) h0.bfN (p1_nd (s := X.s) (seen0 := Y.seen0) h0.nfN Y.nn) Y.bn
  refine ⟨List.nodup_append.2 ⟨st.l0nd, h.1, fun a ha b hb e => ?_⟩, fun j hj => ?_⟩
  · have e1 := (st.l0s a ha).2
    have e2 := (h.2.1 b hb).2.1
    rw [← e, e1] at e2
    cases e2
  · rcases List.mem_append.1 hj with h1 | h1
    · exact (st.l0s j h1).1
    · exact (h.2.1 j h1).1

end Go.Proofs.YbulkbtkoGreatFmt

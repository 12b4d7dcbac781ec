import Derived.Test.YbulkbtkoGreatFmtHeld
namespace Go.Proofs.YbulkbtkoGreatFmt
open Go.RowKit
set_option linter.unusedVariables false
set_option linter.unusedSimpArgs false

def setB (f : Nat → Bool) (j : Nat) : Nat → Bool := fun n => decide (n = j) || f n
/-- A set of numbers as a map with int keys reads. -/
def up (f : Nat → Bool) : Int → Bool
  | .ofNat n => f n
  | .negSucc _ => false
theorem up_nat (f : Nat → Bool) (j : Nat) : up f (j : Int) = f j := rfl
theorem up_set (f : Nat → Bool) (j : Nat) (k : Int) : (decide (k = (j : Int)) || up f k) = up (setB f j) k := by
  cases k with
  | ofNat n =>
    have e : decide ((Int.ofNat n) = (j : Int)) = decide (n = j) := by
      apply decide_eq_decide.2
      constructor
      · intro h; exact Int.ofNat.inj h
      · rintro rfl; rfl
    show (decide ((Int.ofNat n) = (j : Int)) || f n) = (decide (n = j) || f n)
    rw [e]
  | negSucc n =>
    have e : decide ((Int.negSucc n) = (j : Int)) = false := by
      apply decide_eq_false
      intro h
      omega
    show (decide ((Int.negSucc n) = (j : Int)) || false) = false
    rw [e]
    rfl
def cntB (f : Nat → Bool) : Nat → Nat
  | 0 => 0
  | n + 1 => cntB f n + (if f n then 1 else 0)
theorem cntB_same {f : Nat → Bool} {j : Nat} : ∀ n, n ≤ j → cntB (setB f j) n = cntB f n
  | 0, _ => rfl
  | n + 1, h => by
    have e : setB f j n = f n := by simp [setB]; omega
    simp only [cntB]
    rw [cntB_same n (by omega), e]
theorem cntB_set {f : Nat → Bool} {j : Nat} (hf : f j = false) : ∀ n, j < n → cntB (setB f j) n = cntB f n + 1
  | 0, h => by omega
  | n + 1, h => by
    simp only [cntB]
    by_cases e : j = n
    · subst e
      have e1 : setB f j j = true := by simp [setB]
      rw [cntB_same j (Nat.le_refl _), e1, hf]
      simp
    · have e1 : setB f j n = f n := by
        have : ¬ n = j := fun h => e h.symm
        simp [setB, this]
      rw [cntB_set hf n (by omega), e1]
      omega
theorem setB_in {f : Nat → Bool} {j : Nat} (hf : f j = true) : setB f j = f := by
  funext n
  by_cases e : n = j
  · subst e; simp [setB, hf]
  · simp [setB, e]
def intsL (l : List Nat) : List Value := l.map fun j => .int .i64 ((j : Nat) : Int)

/-- What stands fast while the answer is taken in. -/
structure Cx where
  (nb jb hb qb ib cb vb N s snd : Nat)
  (id cw : Nat → Nat)
  (cI : Nat → Int)
  (T : Nat → Int)
  (C : Nat → Nat)
  (jf r : Nat → Value)
  (v0 : Value)
  (l0 : List Nat)

structure EB (X : Cx) (w : World) : Prop where
  net : Net w X.ib X.cb X.vb X.N X.id X.cw
  hid : ∀ i, X.id i < 18446744073709551616
  hinj : ∀ i j, i < X.N → j < X.N → X.id i = X.id j → i = j
  hcw : ∀ i, Reads (X.cw i) (X.cI i)
  hN : X.N ≤ 300
  hs : X.s < X.N
  hsnd : X.snd < X.N
  nd : [X.nb, X.jb, X.hb, X.qb, X.ib, X.cb, X.vb].Nodup
  hv0 : ∀ g ∈ ob X.v0, g ∉ [X.nb, X.jb, X.hb, X.qb, X.ib, X.cb, X.vb]
  lt : ∀ g ∈ [X.nb, X.jb, X.hb, X.qb, X.ib, X.cb, X.vb], g < w.heap.size
  hl0 : X.l0.length ≤ 300
  j1 : X.jf 1 = .map (some X.hb)
  j260 : X.jf 260 = .map (some X.qb)

structure EH (X : Cx) (w wr : World) (seen : Nat → Bool) (nl fs : List Nat) (held : Bool) (want : Nat → Bool) (K : Nat) (fv v : Value) (ed : Int) (r : Nat → Value) : Prop where
  node : NodeIs wr X.nb X.ib X.vb X.N X.s X.T X.C ed r
  rr : ∀ k, k ≠ 516 → r k = X.r k
  ed0 : 0 ≤ ed
  ed1 : ed ≤ 300 + (if held then 1 else 0)
  back : (held = false ∧ r 516 = .slice none 0 0) ∨ (held = true ∧ ∃ bg bc, r 516 = .slice (some ⟨bg, 0, none⟩) 1 bc ∧ wr.cell? ⟨bg, 0, none⟩ = some (.int .i64 ((X.snd : Nat) : Int)) ∧ w.heap.size ≤ bg ∧ bg ∉ ob v ∧ bg ∉ ob fv)
  jrow : wr.rowIs X.jb 47 267 (putF X.jf 0 v)
  heard : SetAt wr X.hb (400 + K) (up seen) (cntB seen X.N)
  wanted : SetAt wr X.qb (400 + K) (up want) (cntB want X.N)
  own : wr.ownsRow 0 65 3 v (X.l0 ++ nl).length (hdsL X.cw X.id X.s (X.l0 ++ nl))
  fown : wr.ownsRow 0 3 1 fv fs.length (intsL fs)
  fr : Fr w wr (X.nb :: X.jb :: X.hb :: X.qb :: ob X.v0)
  atv : ∀ g ∈ ob v, g ∈ ob X.v0 ∨ w.heap.size ≤ g
  atf : ∀ g ∈ ob fv, w.heap.size ≤ g ∧ g ∉ ob v
  lt : ∀ j ∈ fs, j < X.N
  len : fs.length ≤ K
  nlen : nl.length ≤ K

def EHx (X : Cx) (w wr : World) (seen : Nat → Bool) (nl fs : List Nat) (held : Bool) (want : Nat → Bool) (K : Nat) (fv : Value) : Prop := ∃ v ed r, EH X w wr seen nl fs held want K fv v ed r

variable {X : Cx} {w wr w' : World} {seen : Nat → Bool} {nl fs : List Nat} {held : Bool} {want : Nat → Bool} {K : Nat} {fv v : Value} {ed : Int} {r : Nat → Value}

theorem EB.netE (hB : EB X w) (h : EH X w wr seen nl fs held want K fv v ed r) : Net wr X.ib X.cb X.vb X.N X.id X.cw := by
  have nd := hB.nd
  simp only [List.nodup_cons, List.mem_cons, not_or, List.not_mem_nil, not_false_eq_true, and_true] at nd
  refine hB.net.fr h.fr ?_ ?_ ?_
  all_goals
    simp only [List.mem_cons, not_or]
  · exact ⟨Ne.symm nd.1.2.2.2.1, Ne.symm nd.2.1.2.2.1, Ne.symm nd.2.2.1.2.1, Ne.symm nd.2.2.2.1.1, fun hg => hB.hv0 _ hg (by simp)⟩
  · exact ⟨Ne.symm nd.1.2.2.2.2.1, Ne.symm nd.2.1.2.2.2.1, Ne.symm nd.2.2.1.2.2.1, Ne.symm nd.2.2.2.1.2.1, fun hg => hB.hv0 _ hg (by simp)⟩
  · exact ⟨Ne.symm nd.1.2.2.2.2.2, Ne.symm nd.2.1.2.2.2.2, Ne.symm nd.2.2.1.2.2.2, Ne.symm nd.2.2.2.1.2.2, fun hg => hB.hv0 _ hg (by simp)⟩

/-- The row of the nodes heard of lies apart from the fast blocks. -/
theorem EH.vapart (h : EH X w wr seen nl fs held want K fv v ed r) (hB : EB X w) : ∀ g ∈ ob v, g ∉ [X.nb, X.jb, X.hb, X.qb, X.ib, X.cb, X.vb] := fun g hg hm => by
  rcases h.atv g hg with h1 | h1
  · exact hB.hv0 g h1 hm
  · have := hB.lt g hm; omega

/-- Where no elder block turns, all stands. -/
theorem EH.keep (h : EH X w wr seen nl fs held want K fv v ed r) (hf : Fr wr w' []) : EH X w w' seen nl fs held want K fv v ed r where
  node := ⟨h.node.row.of_block (hf.block _ h.node.row.lt (by simp)), h.node.r0, h.node.r1, h.node.r2⟩
  rr := h.rr
  ed0 := h.ed0
  ed1 := h.ed1
  back := by
    rcases h.back with h1 | ⟨h1, bg, bc, h2, h3, h4⟩
    · exact .inl h1
    · exact .inr ⟨h1, bg, bc, h2, hf.cell h3 (by simp), h4⟩
  jrow := h.jrow.of_block (hf.block _ h.jrow.lt (by simp))
  heard := h.heard.of_block (hf.block _ h.heard.lt (by simp))
  wanted := h.wanted.of_block (hf.block _ h.wanted.lt (by simp))
  own := own_fr h.own hf (by simp)
  fown := own_fr h.fown hf (by simp)
  fr := h.fr.wide hf (by simp)
  atv := h.atv
  atf := h.atf
  lt := h.lt
  len := h.len
  nlen := h.nlen

theorem EH.more (h : EH X w wr seen nl fs held want K fv v ed r) {K' : Nat} (hK : K ≤ K') : EH X w wr seen nl fs held want K' fv v ed r :=
  { h with heard := h.heard.mono (by omega), wanted := h.wanted.mono (by omega), len := Nat.le_trans h.len hK, nlen := Nat.le_trans h.nlen hK }

/-- 'fresh = append(fresh, j)'. -/
theorem EH.app (h : EH X w wr seen nl fs held want K fv v ed r) {g cap j : Nat} (hj : j < X.N) (hK : fs.length < K) (hown : w'.ownsRow 0 3 1 (.slice (some ⟨g, 0, none⟩) (fs.length + 1) cap) (fs.length + 1) (intsL fs ++ [.int .i64 ((j : Nat) : Int)])) (hf : Fr wr w' (ob fv)) (hg : g ∈ ob fv ∨ wr.heap.size ≤ g) (hB : EB X w) :
    EH X w w' seen nl (fs ++ [j]) held want K (.slice (some ⟨g, 0, none⟩) (fs.length + 1) cap) v ed r := by
  have hsz := h.fr.size
  have hgw : w.heap.size ≤ g := by
    rcases hg with h1 | h1
    · exact (h.atf g h1).1
    · omega
  have hgv : g ∉ ob v := by
    rcases hg with h1 | h1
    · exact (h.atf g h1).2
    · intro hm; have := own_lt h.own g hm; omega
  have hfw : ∀ x ∈ ob fv, w.heap.size ≤ x := fun x hx => (h.atf x hx).1
  have far : ∀ x ∈ [X.nb, X.jb, X.hb, X.qb, X.ib, X.cb, X.vb], x ∉ ob fv := fun x hx hm => by have := hB.lt x hx; have := hfw x hm; omega
  have hob : ob (.slice (some ⟨g, 0, none⟩) (fs.length + 1) cap) = [g] := rfl
  exact {
    node := ⟨h.node.row.of_block (hf.block _ h.node.row.lt (far _ (by simp))), h.node.r0, h.node.r1, h.node.r2⟩
    rr := h.rr
    ed0 := h.ed0
    ed1 := h.ed1
    back := by
      rcases h.back with h1 | ⟨h1, bg, bc, h2, h3, h4, h5, h6⟩
      · exact .inl h1
      · refine .inr ⟨h1, bg, bc, h2, hf.cell h3 h6, h4, h5, ?_⟩
        rw [hob]
        simp
        rintro rfl
        rcases hg with h7 | h7
        · exact h6 h7
        · have := World.block_lt_of_cell? _ _ h3
          have : bg < wr.heap.size := this
          omega
    jrow := h.jrow.of_block (hf.block _ h.jrow.lt (far _ (by simp)))
    heard := h.heard.of_block (hf.block _ h.heard.lt (far _ (by simp)))
    wanted := h.wanted.of_block (hf.block _ h.wanted.lt (far _ (by simp)))
    own := own_fr h.own hf (fun x hx hm => (h.atf x hm).2 hx)
    fown := by
      have e : intsL (fs ++ [j]) = intsL fs ++ [.int .i64 ((j : Nat) : Int)] := by simp [intsL]
      rw [e, List.length_append]
      exact hown
    fr := h.fr.wide hf (fun x hx => .inr (hfw x hx))
    atv := h.atv
    atf := by
      intro x hx
      rw [hob] at hx
      simp at hx
      subst hx
      exact ⟨hgw, hgv⟩
    lt := by
      intro x hx
      rcases List.mem_append.1 hx with h1 | h1
      · exact h.lt x h1
      · simp at h1; subst h1; exact hj
    len := by simp; omega
    nlen := h.nlen }

/-- 'wanted[j] = true'. -/
theorem EH.wantP (h : EH X w wr seen nl fs held want K fv v ed r) (hB : EB X w) {j m c : Nat} {S : Int → Bool} (hj : j < X.N) (hset : SetAt w' X.qb m (fun k => decide (k = (j : Int)) || up want k) (if up want (j : Int) then cntB want X.N else cntB want X.N + 1)) (hm : m ≤ 400 + K) (hmo : MapOnly wr w' X.qb) :
    EH X w w' seen nl fs held (setB want j) K fv v ed r := by
  have nd := hB.nd
  simp only [List.nodup_cons, List.mem_cons, not_or, List.not_mem_nil, not_false_eq_true, and_true] at nd
  have hqv : X.qb ∉ ob v := fun hm => h.vapart hB _ hm (by simp)
  have hqf : X.qb ∉ ob fv := fun hm => by have := (h.atf _ hm).1; have := hB.lt X.qb (by simp); omega
  have hqw := hB.lt X.qb (by simp)
  exact {
    node := ⟨h.node.row.of_block (hmo.block (nd.1.2.2.1)), h.node.r0, h.node.r1, h.node.r2⟩
    rr := h.rr
    ed0 := h.ed0
    ed1 := h.ed1
    back := by
      rcases h.back with h1 | ⟨h1, bg, bc, h2, h3, h4, h5⟩
      · exact .inl h1
      · exact .inr ⟨h1, bg, bc, h2, (World.cell?_of_block (a := ⟨bg, 0, none⟩) (hmo.block (show bg ≠ X.qb by omega))).trans h3, h4, h5⟩
    jrow := h.jrow.of_block (hmo.block nd.2.1.2.1)
    heard := h.heard.of_block (hmo.block nd.2.2.1.1)
    wanted := by
      have h1 := (hset.mono hm).congr (fun k => up_set want j k)
      have e : (if up want (j : Int) = true then cntB want X.N else cntB want X.N + 1) = cntB (setB want j) X.N := by
        rw [up_nat]
        cases hw : want j
        · rw [cntB_set hw _ hj]; simp
        · rw [setB_in hw]; simp
      rw [e] at h1
      exact h1
    own := own_of_block h.own fun g hg => hmo.block (fun e => hqv (e ▸ hg))
    fown := own_of_block h.fown fun g hg => hmo.block (fun e => hqf (e ▸ hg))
    fr := h.fr.trans (.of_map hmo (by simp))
    atv := h.atv
    atf := h.atf
    lt := h.lt
    len := h.len
    nlen := h.nlen }

end Go.Proofs.YbulkbtkoGreatFmt

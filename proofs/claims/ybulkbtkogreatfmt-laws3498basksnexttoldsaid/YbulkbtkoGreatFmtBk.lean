import Derived.Test.YbulkbtkoGreatFmtAns
namespace Go.Proofs.YbulkbtkoGreatFmt
open Go.RowKit
set_option linter.unusedVariables false
set_option linter.unusedSimpArgs false

/-- The numbers that the law's record goes by: where things lie, what the message holds. -/
structure Ex where
  (ab nsb ncap bb nn bn m0 m1 zb sb wb lb xb Z : Nat)
  (nf bf bw : Nat → Nat)
  (bx : Nat → Int)
  (seen0 : Nat → Bool)
  (l : List Nat)
  (ed : Int)
  (mc : Array Value)
  (ba : Option Addr)
  (bcap : Nat)

def E0s (X : Cx) (Y : Ex) (w : World) : Prop := E0 X w Y.ab Y.nsb Y.ncap Y.bb Y.nn Y.bn Y.m0 Y.m1 Y.nf Y.bf Y.bw Y.bx Y.seen0 Y.l Y.ed Y.mc Y.ba Y.bcap

/-- A block that entriesHeard's premises do not speak of. -/
structure FarOf (X : Cx) (Y : Ex) (g : Nat) : Prop where
  a : g ∉ [X.nb, X.jb, X.hb, X.qb, X.ib, X.cb, X.vb]
  v : g ∉ ob X.v0
  o : g ∉ [Y.ab, Y.nsb, Y.m0, Y.m1]
  b : Y.bn = 0 ∨ g ≠ Y.bb

theorem lt_of_some {w : World} {b : Nat} {o : Obj} (h : w.heap[b]? = some o) : b < w.heap.size := by
  rcases Nat.lt_or_ge b w.heap.size with c | c
  · exact c
  · simp [Array.getElem?_eq_none c] at h

theorem E0s.fr {X : Cx} {Y : Ex} {w w' : World} {S : List Nat} (h : E0s X Y w) (hf : Fr w w' S) (hS : ∀ g ∈ S, FarOf X Y g) : E0s X Y w' := by
  have h0 : E0 X w Y.ab Y.nsb Y.ncap Y.bb Y.nn Y.bn Y.m0 Y.m1 Y.nf Y.bf Y.bw Y.bx Y.seen0 Y.l Y.ed Y.mc Y.ba Y.bcap := h
  have fa : ∀ g ∈ [X.nb, X.jb, X.hb, X.qb, X.ib, X.cb, X.vb], g ∉ S := fun g hg hm => (hS g hm).a hg
  have fo : ∀ g ∈ [Y.ab, Y.nsb, Y.m0, Y.m1], g ∉ S := fun g hg hm => (hS g hm).o hg
  have fb : ∀ i, i < Y.bn → Y.bb ∉ S := fun i hi hm => by
    rcases (hS _ hm).b with h1 | h1
    · omega
    · exact h1 rfl
  have hblk : ∀ {b : Nat} {o : Obj}, w.heap[b]? = some o → b ∉ S → w'.heap[b]? = some o := fun {b o} e hb => (hf.block b (lt_of_some e) hb).trans e
  exact {
    eb := h0.eb.later hf (fa _ (by simp)) (fa _ (by simp)) (fa _ (by simp))
    node := ⟨h0.node.row.of_block (hf.block _ h0.node.row.lt (fa _ (by simp))), h0.node.r0, h0.node.r1, h0.node.r2⟩
    ed0 := h0.ed0
    ed1 := h0.ed1
    r515 := h0.r515
    r516 := h0.r516
    r518 := h0.r518
    r520 := h0.r520
    r777 := h0.r777
    m0e := hblk h0.m0e (fo _ (by simp))
    m1e := hblk h0.m1e (fo _ (by simp))
    spec := h0.spec
    ok := h0.ok
    hl := h0.hl
    jrow := h0.jrow.of_block (hf.block _ h0.jrow.lt (fa _ (by simp)))
    j0 := h0.j0
    j2 := h0.j2
    heard := h0.heard.of_block (hf.block _ h0.heard.lt (fa _ (by simp)))
    wanted := h0.wanted.of_block (hf.block _ h0.wanted.lt (fa _ (by simp)))
    own := own_fr h0.own hf (fun g hg hm => (hS g hm).v hg)
    asked := h0.asked.of_block (hf.block _ h0.asked.lt (fo _ (by simp)))
    apart := h0.apart
    abn := h0.abn
    nsl := fun i hi => hf.cell (h0.nsl i hi) (fo _ (by simp))
    nn0 := h0.nn0
    nn1 := h0.nn1
    nfN := h0.nfN
    nf0 := h0.nf0
    bn1 := h0.bn1
    bl0 := fun i hi => hf.cell (h0.bl0 i hi) (fb i hi)
    bl1 := fun i hi => hf.cell (h0.bl1 i hi) (fb i hi)
    bfN := h0.bfN
    bxr := h0.bxr
    bap := h0.bap
    ba0 := h0.ba0
    mc8 := h0.mc8
    mc9 := h0.mc9
    mcs := h0.mcs }

/-- The numbers lie apart. -/
structure BS (w : World) (X : Cx) (Y : Ex) : Prop where
  far : ∀ g ∈ [Y.zb, Y.sb, Y.wb, Y.lb, Y.xb], FarOf X Y g
  nd : [Y.zb, Y.sb, Y.wb, Y.lb, Y.xb].Nodup
  top : ∀ g, Y.Z ≤ g → FarOf X Y g
  low : ∀ g ∈ [Y.zb, Y.sb, Y.wb, Y.lb, Y.xb], w.heap.size ≤ g ∧ g < Y.Z
  z : w.heap.size ≤ Y.Z
  j263 : X.jf 263 = .map (some Y.zb)
  lowE : ∀ g ∈ Y.zb :: Y.ab :: X.nb :: X.jb :: X.hb :: X.qb :: ob X.v0, w.heap.size ≤ g
  r519 : X.r 519 = .int .i64 0
  j261 : X.jf 261 = .int .i64 (-1)
  j262 : ∃ x, X.jf 262 = .int .i64 x
  jst : ∀ p, p < 256 → ∃ x, X.jf (4 + p) = .int .i64 x
  l0nd : X.l0.Nodup
  l0s : ∀ j ∈ X.l0, j < X.N ∧ Y.seen0 j = true

/-- The record in the making. -/
structure BK (w wr : World) (X : Cx) (Y : Ex) (p : PS) (fv : Value) (inl : Nat → Bool) : Prop where
  e0 : E0s X Y wr
  st : BS w X Y
  bel : Below w.heap.size w wr
  zs : Y.Z ≤ wr.heap.size
  seen : wr.rowIs Y.sb 4 X.N (fun i => .bool (p.seen i))
  want : wr.rowIs Y.wb 4 X.N (fun i => .bool (p.want i))
  inl : wr.rowIs Y.lb 4 X.N (fun i => .bool (inl i))
  msg : wr.heap[Y.xb]? = some (.cells Y.mc 37)
  zset : SetAt wr Y.zb 0 (fun _ => false) 0
  fown : wr.ownsRow 0 3 1 fv p.fresh.length (intsL p.fresh)
  fz : ∀ g ∈ ob fv, Y.Z ≤ g
  flt : ∀ j ∈ p.fresh, j < X.N

variable {w wr w' : World} {X : Cx} {Y : Ex} {p : PS} {fv : Value} {inl : Nat → Bool}

theorem BK.turn (h : BK w wr X Y p fv inl) {S : List Nat} {p' : PS} {fv' : Value} {inl' : Nat → Bool} (hf : Fr wr w' S) (hS : ∀ g ∈ S, g ∈ [Y.sb, Y.wb, Y.lb] ∨ Y.Z ≤ g)
    (seen : w'.rowIs Y.sb 4 X.N (fun i => .bool (p'.seen i))) (want : w'.rowIs Y.wb 4 X.N (fun i => .bool (p'.want i))) (hinl : w'.rowIs Y.lb 4 X.N (fun i => .bool (inl' i)))
    (fown : w'.ownsRow 0 3 1 fv' p'.fresh.length (intsL p'.fresh)) (fz : ∀ g ∈ ob fv', Y.Z ≤ g) (flt : ∀ j ∈ p'.fresh, j < X.N) : BK w w' X Y p' fv' inl' := by
  have far : ∀ g ∈ S, FarOf X Y g := fun g hg => by
    rcases hS g hg with h1 | h1
    · refine h.st.far g ?_
      simp only [List.mem_cons, List.not_mem_nil, or_false] at h1 ⊢
      rcases h1 with h1 | h1 | h1 <;> simp [h1]
    · exact h.st.top g h1
  have nd := h.st.nd
  simp only [List.nodup_cons, List.mem_cons, not_or, List.not_mem_nil, not_false_eq_true, and_true] at nd
  have hx : Y.xb ∉ S := fun hm => by
    rcases hS _ hm with h1 | h1
    · simp only [List.mem_cons, List.not_mem_nil, or_false] at h1
      rcases h1 with h1 | h1 | h1
      · exact nd.2.1.2.2 h1.symm
      · exact nd.2.2.1.2 h1.symm
      · exact nd.2.2.2.1 h1.symm
    · have := (h.st.low Y.xb (by simp)).2; omega
  have hz : Y.zb ∉ S := fun hm => by
    rcases hS _ hm with h1 | h1
    · simp only [List.mem_cons, List.not_mem_nil, or_false] at h1
      rcases h1 with h1 | h1 | h1
      · exact nd.1.1 h1
      · exact nd.1.2.1 h1
      · exact nd.1.2.2.1 h1
    · have := (h.st.low Y.zb (by simp)).2; omega
  exact {
    e0 := h.e0.fr hf far
    st := h.st
    bel := h.bel.trans (hf.below (h.bel.size) (fun g hg => by
      rcases hS g hg with h1 | h1
      · refine (h.st.low g ?_).1
        simp only [List.mem_cons, List.not_mem_nil, or_false] at h1 ⊢
        rcases h1 with h1 | h1 | h1 <;> simp [h1]
      · have := h.st.z; omega))
    zs := Nat.le_trans h.zs hf.size
    seen := seen
    want := want
    inl := hinl
    msg := (hf.block _ (lt_of_some h.msg) hx).trans h.msg
    zset := h.zset.of_block (hf.block _ h.zset.lt hz)
    fown := fown
    fz := fz
    flt := flt }

/-- Where no elder block turns. -/
theorem BK.keep (h : BK w wr X Y p fv inl) (hf : Fr wr w' []) : BK w w' X Y p fv inl :=
  h.turn hf (by simp) (h.seen.of_block (hf.block _ h.seen.lt (by simp))) (h.want.of_block (hf.block _ h.want.lt (by simp))) (h.inl.of_block (hf.block _ h.inl.lt (by simp))) (own_fr h.fown hf (by simp)) h.fz h.flt
theorem BK.ne (h : BK w wr X Y p fv inl) : Y.sb ≠ Y.wb ∧ Y.sb ≠ Y.lb ∧ Y.wb ≠ Y.lb := by
  have nd := h.st.nd
  simp only [List.nodup_cons, List.mem_cons, not_or, List.not_mem_nil, not_false_eq_true, and_true] at nd
  exact ⟨nd.2.1.1, nd.2.1.2.1, nd.2.2.1.1⟩
theorem BK.fvfar (h : BK w wr X Y p fv inl) : ∀ g ∈ ob fv, g ∉ [Y.zb, Y.sb, Y.wb, Y.lb, Y.xb] := fun g hg hm => by
  have := (h.st.low g hm).2
  have := h.fz g hg
  omega
theorem bool_set {w : World} {b n j : Nat} {f : Nat → Bool} (h : w.rowIs b 4 n (fun i => .bool (f i))) : (w.setCell ⟨b, j, none⟩ (.bool true)).rowIs b 4 n (fun i => .bool (setB f j i)) :=
  (h.set j _).congr fun k hk => by
    by_cases c : k = j
    · subst c; rw [if_pos rfl]; simp [setB]
    · rw [if_neg c]; simp [setB, c]
/-- 'want[j] = true'. -/
theorem BK.wantP (h : BK w wr X Y p fv inl) (j : Nat) : BK w (wr.setCell ⟨Y.wb, j, none⟩ (.bool true)) X Y { p with want := setB p.want j } fv inl := by
  have ne := h.ne
  have hf : Fr wr (wr.setCell ⟨Y.wb, j, none⟩ (.bool true)) [Y.wb] := (Fr.refl _ _).set (by simp) _ _
  exact h.turn hf (by simp) (h.seen.of_block (hf.block _ h.seen.lt (by simp; exact ne.1))) (bool_set h.want) (h.inl.of_block (hf.block _ h.inl.lt (by simp; exact ne.2.2.symm))) (own_fr h.fown hf (fun g hg hm => h.fvfar g hg (by simp at hm; simp [hm]))) h.fz h.flt
/-- 'inL[j] = true'. -/
theorem BK.inlP (h : BK w wr X Y p fv inl) (j : Nat) : BK w (wr.setCell ⟨Y.lb, j, none⟩ (.bool true)) X Y p fv (setB inl j) := by
  have ne := h.ne
  have hf : Fr wr (wr.setCell ⟨Y.lb, j, none⟩ (.bool true)) [Y.lb] := (Fr.refl _ _).set (by simp) _ _
  exact h.turn hf (by simp) (h.seen.of_block (hf.block _ h.seen.lt (by simp; exact ne.2.1))) (h.want.of_block (hf.block _ h.want.lt (by simp; exact ne.2.2))) (bool_set h.inl) (own_fr h.fown hf (fun g hg hm => h.fvfar g hg (by simp at hm; simp [hm]))) h.fz h.flt
/-- 'seen[j] = true; fresh = append(fresh, j)'. -/
theorem BK.hearP (h : BK w wr X Y p fv inl) {j g cap : Nat} (hj : j < X.N) (hs : p.seen j = false) {o : Obj} (hown : w'.ownsRow 0 3 1 (.slice (some ⟨g, 0, none⟩) (p.fresh.length + 1) cap) (p.fresh.length + 1) (intsL p.fresh ++ [.int .i64 ((j : Nat) : Int)]))
    (hF : Fr ((wr.setCell ⟨Y.sb, j, none⟩ (.bool true)).alloc o) w' (ob fv)) (hg : g ∈ ob fv ∨ ((wr.setCell ⟨Y.sb, j, none⟩ (.bool true)).alloc o).heap.size ≤ g) : BK w w' X Y (p.hear j) (.slice (some ⟨g, 0, none⟩) (p.fresh.length + 1) cap) inl := by
  have e : p.hear j = { p with seen := setB p.seen j, fresh := p.fresh ++ [j] } := by simp [PS.hear, hs]
  have ne := h.ne
  have hf1 : Fr wr ((wr.setCell ⟨Y.sb, j, none⟩ (.bool true)).alloc o) (Y.sb :: ob fv) := ((Fr.refl _ _).set (by simp) _ _).alloc _
  have hf : Fr wr w' (Y.sb :: ob fv) := hf1.trans (hF.mono fun x hx => List.mem_cons_of_mem _ hx)
  have far : ∀ {b}, b ∈ [Y.sb, Y.wb, Y.lb] → b ∉ ob fv := fun {b} hb hm => h.fvfar b hm (by
    simp only [List.mem_cons, List.not_mem_nil, or_false] at hb ⊢
    rcases hb with h1 | h1 | h1 <;> simp [h1])
  rw [e]
  refine h.turn hf (fun x hx => ?_) ?_ (h.want.of_block (hf.block _ h.want.lt ?_)) (h.inl.of_block (hf.block _ h.inl.lt ?_)) ?_ ?_ ?_
  · simp only [List.mem_cons] at hx
    rcases hx with h1 | h1
    · exact .inl (by simp [h1])
    · exact .inr (h.fz x h1)
  · have h1 := bool_set (j := j) h.seen
    have h2 : ((wr.setCell ⟨Y.sb, j, none⟩ (.bool true)).alloc o).rowIs Y.sb 4 X.N (fun i => .bool (setB p.seen j i)) := h1.of_block (Below.heap_alloc _ _ _ h1.lt)
    exact h2.of_block (hF.block _ h2.lt (far (by simp)))
  · simp only [List.mem_cons, not_or]
    exact ⟨ne.1.symm, far (by simp)⟩
  · simp only [List.mem_cons, not_or]
    exact ⟨ne.2.1.symm, far (by simp)⟩
  · have e2 : intsL (p.fresh ++ [j]) = intsL p.fresh ++ [.int .i64 ((j : Nat) : Int)] := by simp [intsL]
    show w'.ownsRow 0 3 1 _ (p.fresh ++ [j]).length (intsL (p.fresh ++ [j]))
    rw [e2, List.length_append]
    exact hown
  · intro x hx
    have : x = g := by simpa [ob, Value.ownBlock] using hx
    subst this
    rcases hg with h1 | h1
    · exact h.fz x h1
    · have h2 := h.zs
      have h3 : ((wr.setCell ⟨Y.sb, j, none⟩ (.bool true)).alloc o).heap.size = wr.heap.size + 1 := by simp
      omega
  · intro x hx
    rcases List.mem_append.1 hx with h1 | h1
    · exact h.flt x h1
    · simp at h1; subst h1; exact hj

def PSof (X : Cx) (Y : Ex) : PS := p2 (p1 X.s Y.seen0 Y.nf Y.nn) (fun i => bq X.cI X.id X.s X.snd (Y.bf i) (Y.bx i)) Y.bf Y.bn
theorem p2_held (p0 : PS) (q : Nat → Bool) (bf : Nat → Nat) : ∀ k, (p2 p0 q bf k).held = p0.held
  | 0 => rfl
  | k + 1 => by
    have h := p2_held p0 q bf k
    simp only [p2, PS.st2]
    split
    · simp only [PS.hear]
      split <;> exact h
    · exact h

/-- The record as it is handed back. -/
structure BW (w w' : World) (wsb : Nat) (X : Cx) (Y : Ex) (fv : Value) : Prop where
  bk : BK w w' X Y (PSof X Y) fv (fun j => decide (j ∈ Y.l ++ (PSof X Y).fresh))
  c0 : w'.cell? ⟨wsb, 0, none⟩ = some (.pointer (some ⟨X.nb, 0, none⟩))
  c1 : w'.cell? ⟨wsb, 1, none⟩ = some (.pointer (some ⟨X.jb, 0, none⟩))
  c2 : w'.cell? ⟨wsb, 2, none⟩ = some (.slice (some ⟨X.ib, 0, none⟩) X.N X.N)
  c3 : w'.cell? ⟨wsb, 3, none⟩ = some (.slice (some ⟨X.cb, 0, none⟩) X.N X.N)
  c4 : w'.cell? ⟨wsb, 4, none⟩ = some (.int .i64 ((X.s : Nat) : Int))
  c5 : w'.cell? ⟨wsb, 5, none⟩ = some (.int .i64 ((X.snd : Nat) : Int))
  c6 : w'.cell? ⟨wsb, 6, none⟩ = some (.slice (some ⟨Y.lb, 0, none⟩) X.N X.N)
  c7 : w'.cell? ⟨wsb, 7, none⟩ = some (.slice (some ⟨Y.sb, 0, none⟩) X.N X.N)
  c8 : w'.cell? ⟨wsb, 8, none⟩ = some fv
  c9 : w'.cell? ⟨wsb, 9, none⟩ = some (.slice (some ⟨Y.wb, 0, none⟩) X.N X.N)
  c10 : w'.cell? ⟨wsb, 10, none⟩ = some (.bool (PSof X Y).held)
  c11 : w'.cell? ⟨wsb, 11, none⟩ = some (.int .i64 ((X.l0.length : Nat) : Int))
  cm : w'.rangeAt wsb 12 Y.mc.toList
  ge : Y.Z ≤ wsb

end Go.Proofs.YbulkbtkoGreatFmt

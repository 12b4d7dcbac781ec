import Derived.Test.YbulkbtkoGreatFmtB0
import Derived.Test.YbulkbtkoGreatFmtExp
namespace Go.Proofs.YbulkbtkoGreatFmt
open Go.RowKit
set_option linter.unusedVariables false
set_option linter.unusedSimpArgs false

/-- What stands once the answer is taken in. -/
structure FZ (w w' : World) (wsb cab : Nat) (X : Cx) (Y : Ex) (fv v : Value) (T : Nat → Int) (C : Nat → Nat) (ed : Int) (r : Nat → Value) : Prop where
  c0 : w'.cell? ⟨wsb, 0, none⟩ = some (.pointer (some ⟨X.nb, 0, none⟩))
  c1 : w'.cell? ⟨wsb, 1, none⟩ = some (.pointer (some ⟨X.jb, 0, none⟩))
  c2 : w'.cell? ⟨wsb, 2, none⟩ = some (.slice (some ⟨X.ib, 0, none⟩) X.N X.N)
  c3 : w'.cell? ⟨wsb, 3, none⟩ = some (.slice (some ⟨X.cb, 0, none⟩) X.N X.N)
  c4 : w'.cell? ⟨wsb, 4, none⟩ = some (.int .i64 ((X.s : Nat) : Int))
  c5 : w'.cell? ⟨wsb, 5, none⟩ = some (.int .i64 ((X.snd : Nat) : Int))
  c6 : w'.cell? ⟨wsb, 6, none⟩ = some (.slice (some ⟨Y.lb, 0, none⟩) X.N X.N)
  c7 : w'.cell? ⟨wsb, 7, none⟩ = some (.slice (some ⟨Y.sb, 0, none⟩) X.N X.N)
  c8 : w'.cell? ⟨wsb, 8, none⟩ = some fv
  c9 : w'.cell? ⟨wsb, 9, none⟩ = some (.slice (some ⟨Y.wb, 0, none⟩) X.N X.N)
  c10 : w'.cell? ⟨wsb, 10, none⟩ = some (.bool (PSof X Y).held)
  c11 : w'.cell? ⟨wsb, 11, none⟩ = some (.int .i64 ((X.l0.length : Nat) : Int))
  cal : w'.cell? ⟨cab, 0, none⟩ = some (.int .i64 0)
  node : NodeIs w' X.nb X.ib X.vb X.N X.s T C ed r
  r518 : r 518 = .pointer (some ⟨X.jb, 0, none⟩)
  back : ((PSof X Y).held = false ∧ r 516 = .slice none 0 0) ∨ ((PSof X Y).held = true ∧ ∃ bg bc, r 516 = .slice (some ⟨bg, 0, none⟩) 1 bc ∧ w'.cell? ⟨bg, 0, none⟩ = some (.int .i64 ((X.snd : Nat) : Int)))
  jrow : w'.rowIs X.jb 47 267 (putF X.jf 0 v)
  j1 : X.jf 1 = .map (some X.hb)
  j2 : X.jf 2 = .map (some Y.ab)
  j260 : X.jf 260 = .map (some X.qb)
  j263 : X.jf 263 = .map (some Y.zb)
  asked : SetAt w' Y.ab 6 (up fun n => decide (n = X.snd)) 1
  awaited : SetAt w' Y.zb 2 (fun k => decide (k = -5)) 1
  heard : SetAt w' X.hb 2000 (up (PSof X Y).seen) (cntB (PSof X Y).seen X.N)
  wanted : SetAt w' X.qb 2000 (up (PSof X Y).want) (cntB (PSof X Y).want X.N)
  own : w'.ownsRow 0 65 3 v (X.l0 ++ (PSof X Y).fresh).length (hdsL X.cw X.id X.s (X.l0 ++ (PSof X Y).fresh))
  fown : w'.ownsRow 0 3 1 fv (PSof X Y).fresh.length (intsL (PSof X Y).fresh)
  seen : w'.rowIs Y.sb 4 X.N (fun i => .bool ((PSof X Y).seen i))
  want : w'.rowIs Y.wb 4 X.N (fun i => .bool ((PSof X Y).want i))
  inl : w'.rowIs Y.lb 4 X.N (fun i => .bool (decide (i ∈ Y.l ++ (PSof X Y).fresh)))
  net : Net w' X.ib X.cb X.vb X.N X.id X.cw
  spec : Spec X.cI X.id X.s (Y.l ++ (PSof X Y).fresh) T
  hid : ∀ i, X.id i < 18446744073709551616
  hinj : ∀ i j, i < X.N → j < X.N → X.id i = X.id j → i = j
  hcw : ∀ i, Reads (X.cw i) (X.cI i)
  hN : X.N ≤ 300
  hs : X.s < X.N
  hsnd : X.snd < X.N
  hl : ∀ j ∈ Y.l, j < X.N
  flt : ∀ j ∈ (PSof X Y).fresh, j < X.N
  len : (PSof X Y).fresh.length ≤ 601
  hl0 : X.l0.length ≤ 300
  bel : Below w.heap.size w w'

variable {w wb w4 wB w1 w' : World} {wsb cab : Nat} {X : Cx} {Y : Ex} {fv v : Value} {T : Nat → Int} {C : Nat → Nat} {ed : Int} {r : Nat → Value}

theorem FZ.same (h : FZ w wB wsb cab X Y fv v T C ed r) (k : Same wB w') : FZ w w' wsb cab X Y fv v T C ed r :=
  have ce : ∀ {x : Addr} {u : Value}, wB.cell? x = some u → w'.cell? x = some u := fun {x u} e => (k.cell x).trans e
  { h with
    c0 := ce h.c0
    c1 := ce h.c1
    c2 := ce h.c2
    c3 := ce h.c3
    c4 := ce h.c4
    c5 := ce h.c5
    c6 := ce h.c6
    c7 := ce h.c7
    c8 := ce h.c8
    c9 := ce h.c9
    c10 := ce h.c10
    c11 := ce h.c11
    cal := ce h.cal
    node := ⟨h.node.row.of_block (k.block _), h.node.r0, h.node.r1, h.node.r2⟩
    back := by
      rcases h.back with h1 | ⟨h1, bg, bc, h2, h3⟩
      · exact .inl h1
      · exact .inr ⟨h1, bg, bc, h2, ce h3⟩
    jrow := h.jrow.of_block (k.block _)
    asked := h.asked.of_block (k.block _)
    awaited := h.awaited.of_block (k.block _)
    heard := h.heard.of_block (k.block _)
    wanted := h.wanted.of_block (k.block _)
    own := own_of_block h.own fun g _ => k.block g
    fown := own_of_block h.fown fun g _ => k.block g
    seen := h.seen.of_block (k.block _)
    want := h.want.of_block (k.block _)
    inl := h.inl.of_block (k.block _)
    net := h.net.of_blocks (k.block _) (k.block _) (k.block _)
    bel := h.bel.trans (k.below _) }

/-- The record's row for the expected table. -/
theorem FZ.ws (h : FZ w w' wsb cab X Y fv v T C ed r) : WS w' wsb X.ib X.cb Y.lb X.N X.s X.id X.cw (fun i => decide (i ∈ Y.l ++ (PSof X Y).fresh)) :=
  ⟨h.c2, h.c3, h.c4, h.c6, h.net.ids, h.net.cost, h.inl⟩

theorem FZ.of (hW : BW w wb wsb X Y fv) (f4 : Fr wb w4 [Y.zb]) (hcab : w4.cell? ⟨cab, 0, none⟩ = some (.int .i64 0)) (hge : wb.heap.size ≤ cab) (fB : Fr w4 wB [Y.ab]) (hsB : SetAt wB Y.ab 6 (up fun n => decide (n = X.snd)) 1)
    (hP : Post6 X wB w1 (PSof X Y) Y.l v T C ed r) (hset : SetAt w' Y.zb 2 (fun k => decide (k = -5)) 1) (hmo : MapOnly w1 w' Y.zb) (hlow : ∀ g ∈ Y.zb :: Y.ab :: X.nb :: X.jb :: X.hb :: X.qb :: ob X.v0, w.heap.size ≤ g) : FZ w w' wsb cab X Y fv v T C ed r := by
  have hK := hW.bk
  have h0 : E0 X wb Y.ab Y.nsb Y.ncap Y.bb Y.nn Y.bn Y.m0 Y.m1 Y.nf Y.bf Y.bw Y.bx Y.seen0 Y.l Y.ed Y.mc Y.ba Y.bcap := hK.e0
  have eb := h0.eb
  have st := hK.st
  have hzf := st.far Y.zb (by simp)
  have hab := h0.apart Y.ab (by simp)
  have hzab : Y.zb ≠ Y.ab := fun e => hzf.o (by rw [e]; simp)
  have fP := hP.fr
  have fM : Fr w1 w' [Y.zb] := .of_map hmo (by simp)
  -- the whole way
  have f1 : Fr wb w1 (Y.zb :: Y.ab :: X.nb :: X.jb :: X.hb :: X.qb :: ob X.v0) :=
    ((f4.mono (by simp)).trans (fB.mono (by simp))).trans (fP.mono (fun x hx => by simp only [List.mem_cons] at hx ⊢; exact .inr (.inr hx)))
  have f : Fr wb w' (Y.zb :: Y.ab :: X.nb :: X.jb :: X.hb :: X.qb :: ob X.v0) := f1.trans (fM.mono (by simp))
  have far : ∀ g, FarOf X Y g → g ≠ Y.zb → g ∉ Y.zb :: Y.ab :: X.nb :: X.jb :: X.hb :: X.qb :: ob X.v0 := fun g hg hz hm => by
    simp only [List.mem_cons] at hm
    rcases hm with h1 | h1 | h1 | h1 | h1 | h1 | h1
    · exact hz h1
    · exact hg.o (by simp [h1])
    · exact hg.a (by simp [h1])
    · exact hg.a (by simp [h1])
    · exact hg.a (by simp [h1])
    · exact hg.a (by simp [h1])
    · exact hg.v h1
  have hzZ := (st.low Y.zb (by simp)).2
  have hwf := far wsb (st.top wsb hW.ge) (by have := hW.ge; omega)
  have nd := st.nd
  simp only [List.nodup_cons, List.mem_cons, not_or, List.not_mem_nil, not_false_eq_true, and_true] at nd
  have fs := far Y.sb (st.far _ (by simp)) (Ne.symm nd.1.1)
  have fw := far Y.wb (st.far _ (by simp)) (Ne.symm nd.1.2.1)
  have fl := far Y.lb (st.far _ (by simp)) (Ne.symm nd.1.2.2.1)
  have ffv : ∀ g ∈ ob fv, g ∉ Y.zb :: Y.ab :: X.nb :: X.jb :: X.hb :: X.qb :: ob X.v0 := fun g hg => far g (st.top g (hK.fz g hg)) (by have := hK.fz g hg; omega)
  have ce : ∀ {i : Nat} {u : Value}, wb.cell? ⟨wsb, i, none⟩ = some u → w'.cell? ⟨wsb, i, none⟩ = some u := fun {i u} e => f.cell e hwf
  -- the blocks below wb's size
  have lows : ∀ g ∈ Y.zb :: Y.ab :: X.nb :: X.jb :: X.hb :: X.qb :: ob X.v0, g < wb.heap.size := fun g hg => by
    simp only [List.mem_cons] at hg
    rcases hg with h1 | h1 | h1 | h1 | h1 | h1 | h1
    · rw [h1]; exact hK.zset.lt
    · rw [h1]; exact h0.asked.lt
    · exact eb.lt g (by simp [h1])
    · exact eb.lt g (by simp [h1])
    · exact eb.lt g (by simp [h1])
    · exact eb.lt g (by simp [h1])
    · exact own_lt h0.own g h1
  have lowN : ∀ {g}, wb.heap.size ≤ g → g ∉ Y.zb :: Y.ab :: X.nb :: X.jb :: X.hb :: X.qb :: ob X.v0 := fun {g} h1 hm => by have := lows g hm; omega
  have sz4 := f4.size
  have szB := fB.size
  have zne : ∀ g ∈ [X.nb, X.jb, X.hb, X.qb, X.ib, X.cb, X.vb], g ≠ Y.zb := fun g hg e => hzf.a (e ▸ hg)
  have hbk : ∀ g ∈ [X.nb, X.jb, X.hb, X.qb, X.ib, X.cb, X.vb], w'.heap[g]? = w1.heap[g]? := fun g hg => hmo.block (zne g hg)
  have nd7 := eb.nd
  simp only [List.nodup_cons, List.mem_cons, not_or, List.not_mem_nil, not_false_eq_true, and_true] at nd7
  have habn : ∀ g ∈ [X.ib, X.cb, X.vb], g ∉ Y.zb :: Y.ab :: X.nb :: X.jb :: X.hb :: X.qb :: ob X.v0 := fun g hg hm => by
    have hg7 : g ∈ [X.nb, X.jb, X.hb, X.qb, X.ib, X.cb, X.vb] := by
      simp only [List.mem_cons, List.not_mem_nil, or_false] at hg ⊢
      grind
    simp only [List.mem_cons] at hm
    rcases hm with h1 | h1 | h1 | h1 | h1 | h1 | h1
    · exact zne g hg7 h1
    · exact hab.1 (h1 ▸ hg7)
    · simp only [List.mem_cons, List.not_mem_nil, or_false] at hg; grind
    · simp only [List.mem_cons, List.not_mem_nil, or_false] at hg; grind
    · simp only [List.mem_cons, List.not_mem_nil, or_false] at hg; grind
    · simp only [List.mem_cons, List.not_mem_nil, or_false] at hg; grind
    · exact eb.hv0 g h1 hg7
  have hvz : ∀ g ∈ ob v, g ≠ Y.zb := fun g hg e => by
    rcases hP.atv g hg with h1 | h1
    · exact hzf.v (e ▸ h1)
    · have := hK.zset.lt; omega
  have abP : Y.ab ∉ X.nb :: X.jb :: X.hb :: X.qb :: ob X.v0 := fun hm => by
    simp only [List.mem_cons] at hm
    rcases hm with h1 | h1 | h1 | h1 | h1
    · exact hab.1 (by simp [h1])
    · exact hab.1 (by simp [h1])
    · exact hab.1 (by simp [h1])
    · exact hab.1 (by simp [h1])
    · exact hab.2 h1
  have hcl := World.block_lt_of_cell? _ _ hcab
  exact {
    c0 := ce hW.c0
    c1 := ce hW.c1
    c2 := ce hW.c2
    c3 := ce hW.c3
    c4 := ce hW.c4
    c5 := ce hW.c5
    c6 := ce hW.c6
    c7 := ce hW.c7
    c8 := ce hW.c8
    c9 := ce hW.c9
    c10 := ce hW.c10
    c11 := ce hW.c11
    cal := by
      have hn := lowN hge
      simp only [List.mem_cons, not_or] at hn
      have e1 := fB.cell hcab (by simp; exact hn.2.1)
      have e2 := fP.cell e1 (by simp only [List.mem_cons, not_or]; exact hn.2.2)
      exact fM.cell e2 (by simp; exact hn.1)
    node := ⟨hP.node.row.of_block (hbk _ (by simp)), hP.node.r0, hP.node.r1, hP.node.r2⟩
    r518 := (hP.rr 518 (by omega)).trans h0.r518
    back := by
      rcases hP.back with h1 | ⟨h1, bg, bc, h2, h3, h4, h5⟩
      · exact .inl h1
      · exact .inr ⟨h1, bg, bc, h2, fM.cell h3 (by have := hK.zset.lt; simp; omega)⟩
    jrow := hP.jrow.of_block (hbk _ (by simp))
    j1 := eb.j1
    j2 := h0.j2
    j260 := eb.j260
    j263 := st.j263
    asked := (hsB.of_block (fP.block _ hsB.lt abP)).of_block (hmo.block (Ne.symm hzab))
    awaited := hset
    heard := hP.heard.of_block (hbk _ (by simp))
    wanted := hP.wanted.of_block (hbk _ (by simp))
    own := own_of_block hP.own fun g hg => hmo.block (hvz g hg)
    fown := own_fr hK.fown f ffv
    seen := hK.seen.of_block (f.block _ hK.seen.lt fs)
    want := hK.want.of_block (f.block _ hK.want.lt fw)
    inl := hK.inl.of_block (f.block _ hK.inl.lt fl)
    net := eb.net.fr f (habn _ (by simp)) (habn _ (by simp)) (habn _ (by simp))
    spec := hP.spec
    hid := eb.hid
    hinj := eb.hinj
    hcw := eb.hcw
    hN := eb.hN
    hs := eb.hs
    hsnd := eb.hsnd
    hl := h0.hl
    flt := hK.flt
    len := hP.len
    hl0 := eb.hl0
    bel := hK.bel.trans (f.below hK.bel.size hlow) }

end Go.Proofs.YbulkbtkoGreatFmt

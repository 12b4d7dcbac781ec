import Derived.Test.YbulkbtkoGreatFmtFy
namespace Go.Proofs.YbulkbtkoGreatFmt
open Go.RowKit
set_option linter.unusedVariables false
set_option linter.unusedSimpArgs false

/-- What stands once the answer is taken in and the next nodes are asked, or the join has ended. -/
structure FY (w w' : World) (wsb lgb : Nat) (X : Cx) (Y : Ex) (T : Nat → Int) (C : Nat → Nat) (ed : Int) (F rr : Nat → Value) (askS awS : Int → Bool) (na nw m : Nat) (L : List LogE) (lv : Value) : Prop where
  c2 : w'.cell? ⟨wsb, 2, none⟩ = some (.slice (some ⟨X.ib, 0, none⟩) X.N X.N)
  c3 : w'.cell? ⟨wsb, 3, none⟩ = some (.slice (some ⟨X.cb, 0, none⟩) X.N X.N)
  c4 : w'.cell? ⟨wsb, 4, none⟩ = some (.int .i64 ((X.s : Nat) : Int))
  c5 : w'.cell? ⟨wsb, 5, none⟩ = some (.int .i64 ((X.snd : Nat) : Int))
  c6 : w'.cell? ⟨wsb, 6, none⟩ = some (.slice (some ⟨Y.lb, 0, none⟩) X.N X.N)
  inl : w'.rowIs Y.lb 4 X.N (fun i => .bool (decide (i ∈ Y.l ++ (PSof X Y).fresh)))
  net : Net w' X.ib X.cb X.vb X.N X.id X.cw
  node : NodeIs w' X.nb X.ib X.vb X.N X.s T C ed rr
  spec : Spec X.cI X.id X.s (Y.l ++ (PSof X Y).fresh) T
  jrow : w'.rowIs X.jb 47 267 F
  f2 : F 2 = .map (some Y.ab)
  f263 : F 263 = .map (some Y.zb)
  asked : SetAt w' Y.ab m askS na
  awaited : SetAt w' Y.zb m awS nw
  log : LogAt w' lgb L lv
  r519 : rr 519 = .int .i64 1
  asnd : askS ((X.snd : Nat) : Int) = true
  alt : (rr 518 = .pointer none ∧ ∀ e ∈ L, (e.k = 10 ∨ e.k = 11) ∧ e.h = ((X.s : Nat) : Int)) ∨
   (rr 518 = .pointer (some ⟨X.jb, 0, none⟩) ∧ L ≠ [] ∧ nw = L.length ∧ ∀ e ∈ L, e.k = 7 ∧ e.a = ((X.s : Nat) : Int) ∧ ∃ j : Nat, e.dest = (j : Int) ∧ j < X.N ∧ awS (j : Int) = true ∧ askS (j : Int) = true)
  hid : ∀ i, X.id i < 18446744073709551616
  hinj : ∀ i j, i < X.N → j < X.N → X.id i = X.id j → i = j
  hcw : ∀ i, Reads (X.cw i) (X.cI i)
  hN : X.N ≤ 300
  hs : X.s < X.N
  hsnd : X.snd < X.N
  hl : ∀ j ∈ Y.l, j < X.N
  flt : ∀ j ∈ (PSof X Y).fresh, j < X.N
  bel : Below w.heap.size w w'

theorem FY.same {w w1 w' : World} {wsb lgb : Nat} {X : Cx} {Y : Ex} {T : Nat → Int} {C : Nat → Nat} {ed : Int} {F rr : Nat → Value} {askS awS : Int → Bool} {na nw m : Nat} {L : List LogE} {lv : Value} (h : FY w w1 wsb lgb X Y T C ed F rr askS awS na nw m L lv) (k : Below w1.heap.size w1 w') : FY w w' wsb lgb X Y T C ed F rr askS awS na nw m L lv :=
  have hf : Fr w1 w' [] := .of_below k
  { h with
    c2 := cell_stays k h.c2
    c3 := cell_stays k h.c3
    c4 := cell_stays k h.c4
    c5 := cell_stays k h.c5
    c6 := cell_stays k h.c6
    inl := h.inl.of_block (k.block _ h.inl.lt)
    net := h.net.fr hf (by simp) (by simp) (by simp)
    node := ⟨h.node.row.of_block (k.block _ h.node.row.lt), h.node.r0, h.node.r1, h.node.r2⟩
    jrow := h.jrow.of_block (k.block _ h.jrow.lt)
    asked := h.asked.of_block (k.block _ h.asked.lt)
    awaited := h.awaited.of_block (k.block _ h.awaited.lt)
    log := h.log.fr hf (by simp) (by simp)
    bel := h.bel.trans (k.mono h.bel.size) }
theorem FY.ws {w w' : World} {wsb lgb : Nat} {X : Cx} {Y : Ex} {T : Nat → Int} {C : Nat → Nat} {ed : Int} {F rr : Nat → Value} {askS awS : Int → Bool} {na nw m : Nat} {L : List LogE} {lv : Value} (h : FY w w' wsb lgb X Y T C ed F rr askS awS na nw m L lv) : WS w' wsb X.ib X.cb Y.lb X.N X.s X.id X.cw (fun i => decide (i ∈ Y.l ++ (PSof X Y).fresh)) :=
  ⟨h.c2, h.c3, h.c4, h.c6, h.net.ids, h.net.cost, h.inl⟩

variable {w wb w4 : World} {wsb lgb : Nat} {X : Cx} {Y : Ex} {fv : Value}

/-- 'entriesHeard' where no other answer is awaited. -/
theorem law_entries4 (hW : BW w wb wsb X Y fv) (f4 : Fr wb w4 [Y.zb]) (hz4 : SetAt w4 Y.zb 1 (fun k => decide (k = ((X.snd : Nat) : Int)) || false) 1) (hlog : LogAt w4 lgb [] (.slice none 0 0)) (hge : wb.heap.size ≤ lgb) :
    Calls Ybaz.prog 6 #[.pointer (some ⟨X.nb, 0, none⟩), .agg Y.mc, .func (.func 10) #[] #[.pointer (some ⟨lgb, 0, none⟩)]] w4 fun e w' => e = .returned (.tuple #[]) ∧ ∃ T C ed F rr askS awS na nw m L lv, FY w w' wsb lgb X Y T C ed F rr askS awS na nw m L lv := by
  have hK := hW.bk
  have st := hK.st
  have hzf := st.far Y.zb (by simp)
  have h4 : E0s X Y w4 := hK.e0.fr f4 (by simp; exact hzf)
  have h40 : E0 X w4 Y.ab Y.nsb Y.ncap Y.bb Y.nn Y.bn Y.m0 Y.m1 Y.nf Y.bf Y.bw Y.bx Y.seen0 Y.l Y.ed Y.mc Y.ba Y.bcap := h4
  have h0 : E0 X wb Y.ab Y.nsb Y.ncap Y.bb Y.nn Y.bn Y.m0 Y.m1 Y.nf Y.bf Y.bw Y.bx Y.seen0 Y.l Y.ed Y.mc Y.ba Y.bcap := hK.e0
  refine entries_any (R := fun w' => ∃ T C ed F rr askS awS na nw m L lv, FY w w' wsb lgb X Y T C ed F rr askS awS na nw m L lv) h40 _ (fun wB w1 v T C ed r hFB hsB hP => ?_)
  have eb := h0.eb
  have hsnd := eb.hsnd
  have hN := eb.hN
  have hab := h0.apart Y.ab (by simp)
  have hzn : Y.zb ≠ Y.ab := fun e => hzf.o (by simp [e])
  have hzab : Y.zb ∉ [Y.ab] := by simp; exact hzn
  have lows : ∀ g ∈ [X.nb, X.jb, X.hb, X.qb, X.ib, X.cb, X.vb], g < wb.heap.size := eb.lt
  have hzl : Y.zb < wb.heap.size := hK.zset.lt
  have hal : Y.ab < wb.heap.size := h0.asked.lt
  have sz4 := f4.size
  have szB := hFB.size
  have sz1 := hP.fr.size
  have hzP : Y.zb ∉ X.nb :: X.jb :: X.hb :: X.qb :: ob X.v0 := fun hm => by
    simp only [List.mem_cons] at hm
    rcases hm with h1 | h1 | h1 | h1 | h1
    · exact hzf.a (by simp [h1])
    · exact hzf.a (by simp [h1])
    · exact hzf.a (by simp [h1])
    · exact hzf.a (by simp [h1])
    · exact hzf.v h1
  have abP : Y.ab ∉ X.nb :: X.jb :: X.hb :: X.qb :: ob X.v0 := fun hm => by
    simp only [List.mem_cons] at hm
    rcases hm with h1 | h1 | h1 | h1 | h1
    · exact hab.1 (by simp [h1])
    · exact hab.1 (by simp [h1])
    · exact hab.1 (by simp [h1])
    · exact hab.1 (by simp [h1])
    · exact hab.2 h1
  have hv0l := own_lt h0.own
  have lgP : lgb ∉ X.nb :: X.jb :: X.hb :: X.qb :: ob X.v0 := fun hm => by
    simp only [List.mem_cons] at hm
    rcases hm with h1 | h1 | h1 | h1 | h1
    · have := lows X.nb (by simp); omega
    · have := lows X.jb (by simp); omega
    · have := lows X.hb (by simp); omega
    · have := lows X.qb (by simp); omega
    · have := hv0l lgb h1; omega
  have hzB := hz4.of_block (hFB.block _ hz4.lt hzab)
  have hz1 := hzB.of_block (hP.fr.block _ hzB.lt hzP)
  have hlB := hlog.fr hFB (by simp; omega) (fun g hg => by cases hg)
  have hl1 := hlB.fr hP.fr lgP (fun g hg => by cases hg)
  have hs1 := hsB.of_block (hP.fr.block _ hsB.lt abP)
  have c518 : w1.cell? ⟨X.nb, 518, none⟩ = some (.pointer (some ⟨X.jb, 0, none⟩)) := (hP.node.row.cell (by omega)).trans (by simp [ndF, hP.rr 518 (by omega), h40.r518])
  have c263 : w1.cell? ⟨X.jb, 263, none⟩ = some (.map (some Y.zb)) := (hP.jrow.cell (by omega)).trans (by simp [putF, st.j263])
  have hjz : X.jb ≠ Y.zb := fun e => hzf.a (by simp [← e])
  have hS : (decide (((X.snd : Nat) : Int) = ((X.snd : Nat) : Int)) || false) = true := by simp
  refine answered_last c518 c263 hz1 hjz (j := ((X.snd : Nat) : Int)) (iwf (by omega) (by omega)) (by rw [hS]; decide) _ (fun w2 hz2 hmo => ?_)
  have sz2 : w2.heap.size = w1.heap.size := hmo.size
  have hzfalse : SetAt w2 Y.zb 2000 (fun _ => false) 0 := (hz2.mono (by omega)).congr fun k => by
    by_cases c : k = ((X.snd : Nat) : Int)
    · simp [c]
    · simp [c]
  have hb2 : ∀ {g}, g ≠ Y.zb → w2.heap[g]? = w1.heap[g]? := fun {g} hg => hmo.block hg
  have zne : ∀ g ∈ [X.nb, X.jb, X.hb, X.qb, X.ib, X.cb, X.vb], g ≠ Y.zb := fun g hg e => hzf.a (e ▸ hg)
  have ane : ∀ g ∈ [X.nb, X.jb, X.hb, X.qb, X.ib, X.cb, X.vb], g ≠ Y.ab := fun g hg e => hab.1 (e ▸ hg)
  have f1 : Fr wb w1 (Y.zb :: Y.ab :: X.nb :: X.jb :: X.hb :: X.qb :: ob X.v0) :=
    ((f4.mono (by simp)).trans (hFB.mono (by simp))).trans (hP.fr.mono (fun x hx => by simp only [List.mem_cons] at hx ⊢; exact .inr (.inr hx)))
  have f2' : Fr wb w2 (Y.zb :: Y.ab :: X.nb :: X.jb :: X.hb :: X.qb :: ob X.v0) := f1.trans (Fr.of_map hmo (by simp))
  have nd7 := eb.nd
  simp only [List.nodup_cons, List.mem_cons, not_or, List.not_mem_nil, not_false_eq_true, and_true] at nd7
  have net2 : Net w2 X.ib X.cb X.vb X.N X.id X.cw := by
    have far : ∀ g ∈ [X.ib, X.cb, X.vb], g ∉ Y.zb :: Y.ab :: X.nb :: X.jb :: X.hb :: X.qb :: ob X.v0 := fun g hg hm => by
      have hg7 : g ∈ [X.nb, X.jb, X.hb, X.qb, X.ib, X.cb, X.vb] := by
        simp only [List.mem_cons, List.not_mem_nil, or_false] at hg ⊢
        grind
      simp only [List.mem_cons] at hm
      rcases hm with h1 | h1 | h1 | h1 | h1 | h1 | h1
      · exact zne g hg7 h1
      · exact ane g hg7 h1
      · simp only [List.mem_cons, List.not_mem_nil, or_false] at hg; grind
      · simp only [List.mem_cons, List.not_mem_nil, or_false] at hg; grind
      · simp only [List.mem_cons, List.not_mem_nil, or_false] at hg; grind
      · simp only [List.mem_cons, List.not_mem_nil, or_false] at hg; grind
      · exact eb.hv0 g h1 hg7
    exact eb.net.fr f2' (far _ (by simp)) (far _ (by simp)) (far _ (by simp))
  have hvz : ∀ g ∈ ob v, g ≠ Y.zb ∧ g ≠ Y.ab ∧ g ≠ lgb ∧ g ∉ [X.nb, X.jb, X.hb, X.qb, X.ib, X.cb, X.vb] := fun g hg => by
    rcases hP.atv g hg with h1 | h1
    · exact ⟨fun e => hzf.v (e ▸ h1), fun e => hab.2 (e ▸ h1), fun e => by have := hv0l g h1; omega, eb.hv0 g h1⟩
    · have hlw := World.block_lt_of_cell? _ _ (hlog.row.cell (show 0 < 1 by omega))
      have hlw' : lgb < w4.heap.size := hlw
      exact ⟨by omega, by omega, by omega, fun hm => by have := lows g hm; omega⟩
  have hlg2 : LogAt w2 lgb [] (.slice none 0 0) := hl1.fr (Fr.of_map (S := [Y.zb]) hmo (by simp)) (by simp; omega) (fun g hg => by cases hg)
  have hnd := nodes_nd hW
  obtain ⟨P, hPdef⟩ : ∃ P : APar, P = ⟨X, Y.ab, Y.zb, lgb, cntB (PSof X Y).want X.N, v, .slice none 0 0, (PSof X Y).want, T, C, ed⟩ := ⟨_, rfl⟩
  have hown2 : w2.ownsRow 0 65 3 v (X.l0 ++ (PSof X Y).fresh).length (hdsL X.cw X.id X.s (X.l0 ++ (PSof X Y).fresh)) := own_of_block hP.own fun g hg => hb2 (hvz g hg).1
  have hAK : AK w2 w2 P (putF X.jf 0 v) r (X.l0 ++ (PSof X Y).fresh) (up fun n => decide (n = X.snd)) (fun _ => false) 1 0 2000 [] := by
    subst hPdef
    exact {
      st := {
        nd := by
          show [X.nb, X.jb, X.qb, X.ib, X.cb, X.vb, Y.ab, Y.zb, lgb].Nodup
          simp only [List.nodup_cons, List.mem_cons, not_or, List.not_mem_nil, not_false_eq_true, and_true]
          have e1 := lows X.nb (by simp)
          have e2 := lows X.jb (by simp)
          have e3 := lows X.qb (by simp)
          have e4 := lows X.ib (by simp)
          have e5 := lows X.cb (by simp)
          have e6 := lows X.vb (by simp)
          have a1 := ane X.nb (by simp)
          have a2 := ane X.jb (by simp)
          have a3 := ane X.qb (by simp)
          have a4 := ane X.ib (by simp)
          have a5 := ane X.cb (by simp)
          have a6 := ane X.vb (by simp)
          have z1 := zne X.nb (by simp)
          have z2 := zne X.jb (by simp)
          have z3 := zne X.qb (by simp)
          have z4 := zne X.ib (by simp)
          have z5 := zne X.cb (by simp)
          have z6 := zne X.vb (by simp)
          grind
        hv := fun g hg hm => by
          obtain ⟨q1, q2, q3, q4⟩ := hvz g hg
          have hm' : g ∈ [X.nb, X.jb, X.qb, X.ib, X.cb, X.vb, Y.ab, Y.zb, lgb] := hm
          simp only [List.mem_cons, List.not_mem_nil, or_false, not_or] at hm' q4
          grind
        hl := fun g hg => by cases hg
        lt := fun g hg => by
          have hg' : g ∈ [X.nb, X.jb, X.qb, X.ib, X.cb, X.vb, Y.ab, Y.zb, lgb] := hg
          have hll := hlg2.row.lt
          simp only [List.mem_cons, List.not_mem_nil, or_false] at hg'
          rcases hg' with h1 | h1 | h1 | h1 | h1 | h1 | h1 | h1 | h1
          · have := lows X.nb (by simp); omega
          · have := lows X.jb (by simp); omega
          · have := lows X.qb (by simp); omega
          · have := lows X.ib (by simp); omega
          · have := lows X.cb (by simp); omega
          · have := lows X.vb (by simp); omega
          · omega
          · omega
          · omega
        lv := own_lt hown2
        hid := eb.hid
        hcw := eb.hcw
        hN := eb.hN
        hs := eb.hs }
      node := ⟨hP.node.row.of_block (hb2 (zne _ (by simp))), hP.node.r0, hP.node.r1, hP.node.r2⟩
      jrow := hP.jrow.of_block (hb2 (zne _ (by simp)))
      asked := (hs1.of_block (hb2 (Ne.symm hzn))).mono (by omega)
      awaited := hzfalse
      wanted := hP.wanted.of_block (hb2 (zne _ (by simp)))
      own := hown2
      net := net2
      log := ⟨.slice none 0 0, hlg2, fun g hg => by cases hg⟩
      fr := Fr.refl _ _
      nlt := hnd.2
      len := by have h1 := hP.len; have h2 := eb.hl0; have h3 : (PSof X Y).fresh.length ≤ 601 := h1; simp; omega }
  obtain ⟨x262, h262⟩ := st.j262
  have hFJ : FJ P (putF X.jf 0 v) (-1) x262 := by
    subst hPdef
    exact ⟨by simp [putF], by simp [putF, h0.j2], by simp [putF, eb.j260], by simp [putF, st.j261], by simp [putF, h262], by simp [putF, st.j263], fun p hp => by
      obtain ⟨x, hx⟩ := st.jst p hp
      exact ⟨x, by simp only [putF]; rw [if_neg (by omega)]; exact hx⟩⟩
  have hlv : P.lv0 = .slice none 0 0 := by rw [hPdef]
  have e1 : P.X = X := by rw [hPdef]
  have e2 : P.lgb = lgb := by rw [hPdef]
  have hcon := askNext_any hAK (by rw [hlv, e2]; exact hlg2) hlv hFJ hnd.1 ((hP.rr 519 (by omega)).trans st.r519) (by rw [e1]; exact (hP.rr 518 (by omega)).trans h0.r518) (by omega) rfl
  rw [e1, e2] at hcon
  refine hcon.mono ?_
  rintro e w' ⟨he, F', rr', nl', askS', awS', na', nw', m', L', hA, hF2, hF263, hask, h519, halt⟩
  have hA0 := hAK.keep (w' := w2.alloc (.cells #[.pointer (some ⟨X.nb, 0, none⟩)] 26)) ((Fr.refl _ _).alloc _)
  have hB := hA.unbase hA0
  subst hPdef
  obtain ⟨lv, hlg, _⟩ := hB.log
  have fS := hB.fr
  have farS : ∀ g, FarOf X Y g → g ≠ Y.zb → g < wb.heap.size → w'.heap[g]? = wb.heap[g]? := fun g hg hz hl => by
    have q1 : g ∉ Y.zb :: Y.ab :: X.nb :: X.jb :: X.hb :: X.qb :: ob X.v0 := fun hm => by
      simp only [List.mem_cons] at hm
      rcases hm with h1 | h1 | h1 | h1 | h1 | h1 | h1
      · exact hz h1
      · exact hg.o (by simp [h1])
      · exact hg.a (by simp [h1])
      · exact hg.a (by simp [h1])
      · exact hg.a (by simp [h1])
      · exact hg.a (by simp [h1])
      · exact hg.v h1
    have q2 : g ∉ X.nb :: X.jb :: Y.ab :: Y.zb :: lgb :: (ob v ++ ob (.slice none 0 0)) := fun hm => by
      simp only [List.mem_cons, List.mem_append] at hm
      rcases hm with h1 | h1 | h1 | h1 | h1 | h1 | h1
      · exact hg.a (by simp [h1])
      · exact hg.a (by simp [h1])
      · exact hg.o (by simp [h1])
      · exact hz h1
      · omega
      · rcases hP.atv g h1 with h2 | h2
        · exact hg.v h2
        · omega
      · cases h1
    exact (fS.block g (by omega) q2).trans (f2'.block g hl q1)
  have hwsl : wsb < wb.heap.size := World.block_lt_of_cell? _ _ hW.c0
  have hzZ := (st.low Y.zb (by simp)).2
  have hwz : wsb ≠ Y.zb := by have := hW.ge; omega
  have hbw := farS wsb (st.top wsb hW.ge) hwz hwsl
  have ce : ∀ {i : Nat} {u : Value}, wb.cell? ⟨wsb, i, none⟩ = some u → w'.cell? ⟨wsb, i, none⟩ = some u := fun {i u} e => (World.cell?_of_block (a := ⟨wsb, i, none⟩) hbw).trans e
  have nd5 := st.nd
  simp only [List.nodup_cons, List.mem_cons, not_or, List.not_mem_nil, not_false_eq_true, and_true] at nd5
  refine ⟨he, T, C, ed, F', rr', askS', awS', na', nw', m', L', lv, {
    c2 := ce hW.c2
    c3 := ce hW.c3
    c4 := ce hW.c4
    c5 := ce hW.c5
    c6 := ce hW.c6
    inl := hK.inl.of_block (farS Y.lb (st.far _ (by simp)) (Ne.symm nd5.1.2.2.1) hK.inl.lt)
    net := hB.net
    node := hB.node
    spec := hP.spec
    jrow := hB.jrow
    f2 := hF2
    f263 := hF263
    asked := hB.asked
    awaited := hB.awaited
    log := hlg
    r519 := h519
    asnd := hask _ (by simp [up_nat])
    alt := halt
    hid := eb.hid
    hinj := eb.hinj
    hcw := eb.hcw
    hN := eb.hN
    hs := eb.hs
    hsnd := eb.hsnd
    hl := h0.hl
    flt := hK.flt
    bel := ?_ }⟩
  have hb1 : Below w.heap.size wb w2 := f2'.below hK.bel.size st.lowE
  have hb2' : Below w.heap.size w2 w' := fS.below (by have := hK.bel.size; omega) (fun g hg => by
    have hg' : g ∈ X.nb :: X.jb :: Y.ab :: Y.zb :: lgb :: (ob v ++ ob (.slice none 0 0)) := hg
    simp only [List.mem_cons, List.mem_append] at hg'
    have hsz := hK.bel.size
    rcases hg' with h1 | h1 | h1 | h1 | h1 | h1 | h1
    · exact st.lowE g (by simp [h1])
    · exact st.lowE g (by simp [h1])
    · exact st.lowE g (by simp [h1])
    · exact st.lowE g (by simp [h1])
    · omega
    · rcases hP.atv g h1 with h2 | h2
      · exact st.lowE g (by simp [h2])
      · omega
    · cases h1)
  exact (hK.bel.trans hb1).trans hb2'

end Go.Proofs.YbulkbtkoGreatFmt

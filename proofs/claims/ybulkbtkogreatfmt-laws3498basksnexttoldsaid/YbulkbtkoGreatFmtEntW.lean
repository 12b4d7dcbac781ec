import Derived.Test.YbulkbtkoGreatFmtEnt
namespace Go.Proofs.YbulkbtkoGreatFmt
open Go.RowKit
set_option linter.unusedVariables false
set_option linter.unusedSimpArgs false

/-- What entriesHeard meets. -/
structure E0 (X : Cx) (w : World) (ab nsb ncap bb nn bn m0 m1 : Nat) (nf bf bw : Nat → Nat) (bx : Nat → Int) (seen0 : Nat → Bool) (l : List Nat) (ed : Int) (mc : Array Value) (ba : Option Addr) (bcap : Nat) : Prop where
  eb : EB X w
  node : NodeIs w X.nb X.ib X.vb X.N X.s X.T X.C ed X.r
  ed0 : 0 ≤ ed
  ed1 : ed ≤ 300
  r515 : X.r 515 = .map (some m0)
  r516 : X.r 516 = .slice none 0 0
  r518 : X.r 518 = .pointer (some ⟨X.jb, 0, none⟩)
  r520 : X.r 520 = .slice none 0 0
  r777 : X.r 777 = .map (some m1)
  m0e : w.heap[m0]? = some (.map #[] 0)
  m1e : w.heap[m1]? = some (.map #[] 0)
  spec : Spec X.cI X.id X.s l X.T
  ok : TabOk X.N X.s X.id X.cw X.T X.C
  hl : ∀ j ∈ l, j < X.N
  jrow : w.rowIs X.jb 47 267 X.jf
  j0 : X.jf 0 = X.v0
  j2 : X.jf 2 = .map (some ab)
  heard : SetAt w X.hb 400 (up seen0) (cntB seen0 X.N)
  wanted : SetAt w X.qb 400 (up fun _ => false) 0
  own : w.ownsRow 0 65 3 X.v0 X.l0.length (hdsL X.cw X.id X.s X.l0)
  asked : SetAt w ab 5 (up fun _ => false) 0
  apart : ∀ g ∈ [ab, nsb, m0, m1], g ∉ [X.nb, X.jb, X.hb, X.qb, X.ib, X.cb, X.vb] ∧ g ∉ ob X.v0
  abn : ab ≠ nsb ∧ ab ≠ m0 ∧ ab ≠ m1
  nsl : ∀ i, i < nn → w.cell? ⟨nsb, i, none⟩ = some (.int .i64 ((nf i : Nat) : Int))
  nn0 : 0 < nn
  nn1 : nn ≤ 301
  nfN : ∀ i, nf i < X.N
  nf0 : nf 0 = X.snd
  bn1 : bn ≤ 300
  bl0 : ∀ i, i < bn → w.cell? ⟨bb, 2 * i, none⟩ = some (.int .i64 ((bf i : Nat) : Int))
  bl1 : ∀ i, i < bn → w.cell? ⟨bb, 2 * i + 1, none⟩ = some (.float .f64 (bw i))
  bfN : ∀ i, bf i < X.N
  bxr : ∀ i, Reads (bw i) (bx i)
  bap : bn = 0 ∨ (bb ∉ [X.nb, X.jb, X.hb, X.qb, X.ib, X.cb, X.vb] ∧ bb ∉ ob X.v0 ∧ bb ≠ ab)
  ba0 : bn = 0 ∨ ba = some ⟨bb, 0, none⟩
  mc8 : mc[8]? = some (.slice (some ⟨nsb, 0, none⟩) nn ncap)
  mc9 : mc[9]? = some (.slice ba bn bcap)
  mcs : mc.size = 15

theorem EB.later {X : Cx} {w w' : World} {S : List Nat} (h : EB X w) (hf : Fr w w' S) (h1 : X.ib ∉ S) (h2 : X.cb ∉ S) (h3 : X.vb ∉ S) : EB X w' :=
  { h with net := h.net.fr hf h1 h2 h3, lt := fun g hg => Nat.lt_of_lt_of_le (h.lt g hg) hf.size }

/-- What answered meets. -/
structure Post6 (X : Cx) (wB w1 : World) (p : PS) (l : List Nat) (v : Value) (T : Nat → Int) (C : Nat → Nat) (ed : Int) (r : Nat → Value) : Prop where
  node : NodeIs w1 X.nb X.ib X.vb X.N X.s T C ed r
  rr : ∀ k, k ≠ 516 → r k = X.r k
  spec : Spec X.cI X.id X.s (l ++ p.fresh) T
  ok : TabOk X.N X.s X.id X.cw T C
  back : (p.held = false ∧ r 516 = .slice none 0 0) ∨ (p.held = true ∧ ∃ bg bc, r 516 = .slice (some ⟨bg, 0, none⟩) 1 bc ∧ w1.cell? ⟨bg, 0, none⟩ = some (.int .i64 ((X.snd : Nat) : Int)) ∧ wB.heap.size ≤ bg ∧ bg ∉ ob v)
  jrow : w1.rowIs X.jb 47 267 (putF X.jf 0 v)
  heard : SetAt w1 X.hb 2000 (up p.seen) (cntB p.seen X.N)
  wanted : SetAt w1 X.qb 2000 (up p.want) (cntB p.want X.N)
  own : w1.ownsRow 0 65 3 v (X.l0 ++ p.fresh).length (hdsL X.cw X.id X.s (X.l0 ++ p.fresh))
  fr : Fr wB w1 (X.nb :: X.jb :: X.hb :: X.qb :: ob X.v0)
  atv : ∀ g ∈ ob v, g ∈ ob X.v0 ∨ wB.heap.size ≤ g
  lt : ∀ j ∈ p.fresh, j < X.N
  len : p.fresh.length ≤ 601

theorem EP.start {X : Cx} {w wB : World} {ab nsb ncap bb nn bn m0 m1 : Nat} {nf bf bw : Nat → Nat} {bx : Nat → Int} {seen0 : Nat → Bool} {l : List Nat} {ed : Int} {mc : Array Value} {ba : Option Addr} {bcap : Nat} (h0 : E0 X w ab nsb ncap bb nn bn m0 m1 nf bf bw bx seen0 l ed mc ba bcap) (hF : Fr w wB [ab]) : EB X wB ∧ EP X wB wB (p1 X.s seen0 nf 0) 0 (.slice none 0 0) := by
  obtain ⟨ha, hav⟩ := h0.apart ab (by simp)
  have hne : ∀ g ∈ [X.nb, X.jb, X.hb, X.qb, X.ib, X.cb, X.vb], g ∉ [ab] := fun g hg hm => by simp at hm; subst hm; exact ha hg
  have hc0 : ∀ n, cntB (fun _ => false) n = 0 := fun n => by induction n with
    | zero => rfl
    | succ n ih => simp [cntB, ih]
  refine ⟨h0.eb.later hF (hne _ (by simp)) (hne _ (by simp)) (hne _ (by simp)), X.v0, ed, X.r, {
    node := ⟨h0.node.row.of_block (hF.block _ h0.node.row.lt (hne _ (by simp))), h0.node.r0, h0.node.r1, h0.node.r2⟩
    rr := fun _ _ => rfl
    ed0 := h0.ed0
    ed1 := by have := h0.ed1; simp [p1]; omega
    back := .inl ⟨rfl, h0.r516⟩
    jrow := (h0.jrow.of_block (hF.block _ h0.jrow.lt (hne _ (by simp)))).congr fun k hk => (by
      unfold putF
      by_cases e : k = 0
      · subst e; simp [h0.j0]
      · simp [e])
    heard := h0.heard.of_block (hF.block _ h0.heard.lt (hne _ (by simp)))
    wanted := by
      have h1 := h0.wanted.of_block (hF.block _ h0.wanted.lt (hne _ (by simp)))
      simp only [p1, hc0]
      exact h1
    own := by
      simp only [p1, List.append_nil]
      exact own_fr h0.own hF (fun g hg hm => by simp at hm; subst hm; exact hav hg)
    fown := ⟨rfl, .inl ⟨rfl, rfl⟩⟩
    fr := Fr.refl _ _
    atv := fun g hg => .inl hg
    atf := fun g hg => by simp [ob, Value.ownBlock] at hg
    lt := fun j hj => by simp [p1] at hj
    len := by simp [p1]
    nlen := by simp [p1] }⟩

theorem hear_len (p : PS) (j : Nat) : (p.hear j).fresh.length ≤ p.fresh.length + 1 := by
  unfold PS.hear
  split <;> simp
theorem p1_len (s : Nat) (seen0 : Nat → Bool) (nf : Nat → Nat) : ∀ k, (p1 s seen0 nf k).fresh.length ≤ k
  | 0 => by simp [p1]
  | k + 1 => by
    have h := p1_len s seen0 nf k
    simp only [p1, PS.st1]
    split
    · simp; omega
    · have := hear_len (p1 s seen0 nf k) (nf k); omega
theorem p2_len (p0 : PS) (q : Nat → Bool) (bf : Nat → Nat) : ∀ k, (p2 p0 q bf k).fresh.length ≤ p0.fresh.length + k
  | 0 => by simp [p2]
  | k + 1 => by
    have h := p2_len p0 q bf k
    simp only [p2, PS.st2]
    split
    · have := hear_len (p2 p0 q bf k) (bf k)
      simp
      omega
    · omega

/-- 'n.hear(fresh, NoNode, send)'. -/
theorem EP.callHear {X : Cx} {wB wr : World} {p : PS} {K : Nat} {fv : Value} {m0 m1 : Nat} {l : List Nat} (h : EP X wB wr p K fv) (hB : EB X wB) (hK : K ≤ 1000) (hlen : p.fresh.length ≤ 601) (hSp : Spec X.cI X.id X.s l X.T) (hT : TabOk X.N X.s X.id X.cw X.T X.C) (hl : ∀ j ∈ l, j < X.N)
    (r515 : X.r 515 = .map (some m0)) (r518 : X.r 518 = .pointer (some ⟨X.jb, 0, none⟩)) (r520 : X.r 520 = .slice none 0 0) (r777 : X.r 777 = .map (some m1)) (hm0 : wB.heap[m0]? = some (.map #[] 0)) (hm1 : wB.heap[m1]? = some (.map #[] 0))
    (ha0 : m0 ∉ X.nb :: X.jb :: X.hb :: X.qb :: ob X.v0) (ha1 : m1 ∉ X.nb :: X.jb :: X.hb :: X.qb :: ob X.v0) (f : Value) :
    Calls Ybaz.prog 16 #[.pointer (some ⟨X.nb, 0, none⟩), fv, .int .i64 (-1), f] wr fun e w1 => e = .returned (.tuple #[]) ∧ ∃ v T C ed r, Post6 X wB w1 p l v T C ed r := by
  obtain ⟨v, ed, r, h⟩ := h
  have nd := hB.nd
  simp only [List.nodup_cons, List.mem_cons, not_or, List.not_mem_nil, not_false_eq_true, and_true] at nd
  have hm0l : m0 < wB.heap.size := by
    rcases Nat.lt_or_ge m0 wB.heap.size with h | h
    · exact h
    · simp [Array.getElem?_eq_none h] at hm0
  have hm1l : m1 < wB.heap.size := by
    rcases Nat.lt_or_ge m1 wB.heap.size with h | h
    · exact h
    · simp [Array.getElem?_eq_none h] at hm1
  have q0 := (h.fr.block m0 hm0l ha0).trans hm0
  have q1 := (h.fr.block m1 hm1l ha1).trans hm1
  have hnl := hB.lt X.nb (by simp)
  obtain ⟨fa, fc, rfl, hfa⟩ := own_shape h.fown
  obtain ⟨fb, hfb, hnf⟩ : ∃ fb, (p.fresh.length = 0 ∨ fa = some ⟨fb, 0, none⟩) ∧ X.nb ≠ fb := by
    rcases hfa with h1 | ⟨g, h1, h2⟩
    · exact ⟨X.nb + 1, .inl h1, by omega⟩
    · exact ⟨g, .inr h1, by have := (h.atf g h2).1; omega⟩
  have hlist : (List.range p.fresh.length).map (fun i => p.fresh.getD i 0) = p.fresh := by
    apply List.ext_getElem
    · simp
    · intro i h1 h2
      simp
      rw [List.getElem?_eq_getElem h2]
      rfl
  have hfs : ∀ i, i < p.fresh.length → p.fresh.getD i 0 < X.N := fun i hi => by
    have : p.fresh.getD i 0 = p.fresh[i] := by simp [hi]
    rw [this]
    exact h.lt _ (List.getElem_mem hi)
  have hmem : ∀ i, i < p.fresh.length → wr.cell? ⟨fb, i, none⟩ = some (.int .i64 ((p.fresh.getD i 0 : Nat) : Int)) := fun i hi => by
    obtain ⟨g, cap, he, _, hc⟩ := own_cells h.fown (by omega)
    have hg : g = fb := by
      rcases hfb with h1 | h1
      · omega
      · simp only [Value.slice.injEq] at he
        have := he.1
        rw [h1] at this
        simp at this
        exact this.symm
    subst hg
    refine hc i _ ?_
    simp [intsL, hi]
  have hrr := h.rr
  refine (hear_any (fs := fun i => p.fresh.getD i 0) (l := l) (m0 := m0) (m1 := m1) (jb := X.jb) (fb := fb) (hB.netE h) hB.hid hB.hinj hB.hcw hB.hN hB.hs h.node hT hSp hl ⟨h.ed0, by have := h.ed1; split at this <;> omega⟩ (by rw [hrr _ (by omega)]; exact r515) (by rw [hrr _ (by omega)]; exact r518) (by rw [hrr _ (by omega)]; exact r520) (by rw [hrr _ (by omega)]; exact r777) q0 q1 (by omega) hfs fa hfb hmem hnf nd.1.2.2.2.1 nd.1.2.2.2.2.1 nd.1.2.2.2.2.2 (fun e => ha0 (by simp [← e])) (fun e => ha1 (by simp [← e])) f (-1)).mono ?_
  rintro e w1 ⟨rfl, T', C', ed', hH⟩
  have hf := hH.fr
  have hnv : X.nb ∉ ob v := fun hm => h.vapart hB _ hm (by simp)
  refine ⟨rfl, v, T', C', ed', r, {
    node := hH.node
    rr := h.rr
    spec := by have := hH.spec; rw [hlist] at this; exact this
    ok := hH.ok
    back := ?_
    jrow := h.jrow.of_block (hf.block _ h.jrow.lt (by simp; exact Ne.symm nd.1.1))
    heard := (h.heard.of_block (hf.block _ h.heard.lt (by simp; exact Ne.symm nd.1.2.1))).mono (by omega)
    wanted := (h.wanted.of_block (hf.block _ h.wanted.lt (by simp; exact Ne.symm nd.1.2.2.1))).mono (by omega)
    own := own_fr h.own hf (fun g hg hm => by simp at hm; exact hnv (hm ▸ hg))
    fr := h.fr.wide hf (fun x hx => by simp at hx; subst hx; exact .inl (by simp))
    atv := h.atv
    lt := h.lt
    len := hlen }⟩
  rcases h.back with h1 | ⟨h1, bg, bc, h2, h3, h4, h5, h6⟩
  · exact .inl h1
  · exact .inr ⟨h1, bg, bc, h2, hf.cell h3 (by show bg ∉ [X.nb]; simp; omega), h4, h5⟩

set_option maxHeartbeats 4000000 in
set_option maxRecDepth 100000 in
theorem entries_any {X : Cx} {w : World} {ab nsb ncap bb nn bn m0 m1 : Nat} {nf bf bw : Nat → Nat} {bx : Nat → Int} {seen0 : Nat → Bool} {l : List Nat} {ed : Int} {mc : Array Value} {ba : Option Addr} {bcap : Nat} (h0 : E0 X w ab nsb ncap bb nn bn m0 m1 nf bf bw bx seen0 l ed mc ba bcap) (f : Value) {R : World → Prop}
    (hans : ∀ wB w1 v T C ed r, Fr w wB [ab] → SetAt wB ab 6 (up fun n => decide (n = X.snd)) 1 → Post6 X wB w1 (p2 (p1 X.s seen0 nf nn) (fun i => bq X.cI X.id X.s X.snd (bf i) (bx i)) bf bn) l v T C ed r → Calls Ybaz.prog 17 #[.pointer (some ⟨X.nb, 0, none⟩), .int .i64 ((X.snd : Nat) : Int), f] w1 fun e w' => e = .returned (.tuple #[]) ∧ R w') :
    Calls Ybaz.prog 6 #[.pointer (some ⟨X.nb, 0, none⟩), .agg mc, f] w fun e w' => e = .returned (.tuple #[]) ∧ R w' := by
  have hN := h0.eb.hN
  have hsnd := h0.eb.hsnd
  have q518 : w.cell? ⟨X.nb, 518, none⟩ = some (.pointer (some ⟨X.jb, 0, none⟩)) := (h0.node.row.cell (by omega)).trans (by simp [ndF, h0.r518])
  have q2 : w.cell? ⟨X.jb, 2, none⟩ = some (.map (some ab)) := (h0.jrow.cell (by omega)).trans (by rw [h0.j2])
  have q0 := h0.nsl 0 h0.nn0
  rw [h0.nf0] at q0
  have hn0 := h0.nn0
  have hnn1 := h0.nn1
  have hbn1 := h0.bn1
  obtain ⟨wA, hwA⟩ : ∃ wA, wA = w.alloc (.cells mc 37) := ⟨_, rfl⟩
  have hBA : Below w.heap.size w wA := by rw [hwA]; exact (Below.refl _ w).alloc (Nat.le_refl _) _
  have g8 : wA.cell? ⟨w.heap.size, 8, none⟩ = some (.slice (some ⟨nsb, 0, none⟩) nn ncap) := by rw [hwA]; have := h0.mc8; go_simp
  have g9 : wA.cell? ⟨w.heap.size, 9, none⟩ = some (.slice ba bn bcap) := by rw [hwA]; have := h0.mc9; go_simp
  have a518 := cell_stays hBA q518
  have a2 := cell_stays hBA q2
  have a0 := cell_stays hBA q0
  obtain ⟨wB, hput, hsetB, hmo⟩ := (h0.asked.of_block (hBA.block _ h0.asked.lt)).put (j := ((X.snd : Nat) : Int)) (iwf (by omega) (by omega)) (by decide)
  have H0 := hide h0
  have HBA := hide hBA
  have HsetB := hide hsetB
  have Hmo := hide hmo
  have hFB : Fr w wB [ab] := (Fr.of_below hBA).trans (.of_map hmo (by simp))
  have hlt0 : ab < w.heap.size := h0.asked.lt
  have hszA : wA.heap.size = w.heap.size + 1 := by rw [hwA]; simp
  have b8 : wB.cell? ⟨w.heap.size, 8, none⟩ = some (.slice (some ⟨nsb, 0, none⟩) nn ncap) := (World.cell?_of_block (a := ⟨w.heap.size, 8, none⟩) (hmo.block (show w.heap.size ≠ ab by omega))).trans g8
  have b9 : wB.cell? ⟨w.heap.size, 9, none⟩ = some (.slice ba bn bcap) := (World.cell?_of_block (a := ⟨w.heap.size, 9, none⟩) (hmo.block (show w.heap.size ≠ ab by omega))).trans g9
  have hszB := hmo.size
  obtain ⟨hEB, hE⟩ := EP.start h0 hFB
  have HEB := hide hEB
  have HE := hide hE
  have HFB := hide hFB
  have Hans := hide hans
  clear h0 hBA hsetB hmo hans hEB hE hFB g9
  go_enter Ybaz.func6, Ybaz.ntmps6
  go_upto_region 1 with fail
  rw [← hwA]
  clear hwA
  go_wp2_with fail
  go_loopw [32, 8] (fun iv fv wr => ∃ k : Nat, k ≤ nn ∧ iv = .int .i64 (k : Int) ∧ Hid (EP X wB wr (p1 X.s seen0 nf k) k fv)) (fun iv _ _ => nn - (intOf iv).toNat)
  case atStart => exact ⟨0, by omega, rfl, HE⟩
  case round =>
    obtain ⟨k, hk, rfl, hP⟩ := hrel
    have hszw := (unhide hP).fr.size
    by_cases hkl : k < nn
    · have hfar := (unhide H0).apart nsb (by simp)
      have m1 : wr.cell? ⟨nsb, k, none⟩ = some (.int .i64 ((nf k : Nat) : Int)) := by
        refine (unhide hP).fr.cell ((unhide HFB).cell ((unhide H0).nsl k hkl) ?_) ?_
        · simp; exact Ne.symm (unhide H0).abn.1
        · have := hfar.1
          simp only [List.mem_cons, not_or] at this ⊢
          exact ⟨this.1, this.2.1, this.2.2.1, this.2.2.2.1, hfar.2⟩
      have k0 : (0 : Int) ≤ (k : Int) := by omega
      have k1 : (k : Int) < (nn : Int) := by omega
      have c0 := (unhide hP).self
      have hjN := (unhide H0).nfN k
      clear hfar
      by_cases hjs : nf k = X.s
      · have e1 : p1 X.s seen0 nf (k + 1) = { p1 X.s seen0 nf k with held := true } := by simp [p1, PS.st1, hjs]
        have t1 : (((nf k : Nat) : Int) == ((X.s : Nat) : Int)) = true := by simp [hjs]
        have t2 : ((nf k : Nat) : Int) = ((X.s : Nat) : Int) := by rw [hjs]
        go_wp2_with (go_at_call 13; refine ((unhide hP).callHeld (unhide HEB)).mono ?_; rintro e w1 ⟨rfl, hP1'⟩; have hP1 := hide hP1'; clear hP1')
        refine ⟨⟨k + 1, by omega, rfl, ?_⟩, by simp [intOf]; omega⟩
        rw [e1]
        exact hP1
      · have t2 : ¬ ((nf k : Nat) : Int) = ((X.s : Nat) : Int) := by omega
        have t1 : (((nf k : Nat) : Int) == ((X.s : Nat) : Int)) = false := by simp; omega
        have e1 : p1 X.s seen0 nf (k + 1) = (p1 X.s seen0 nf k).hear (nf k) := by simp [p1, PS.st1, hjs]
        cases hsn : (p1 X.s seen0 nf k).seen (nf k)
        · have Hsn := hide hsn
          have hlen := (unhide hP).len
          clear hsn
          go_wp2_with (first
            | (go_at_call 14; refine ((unhide hP).callNew (unhide HEB) hjN (unhide Hsn) (by omega) (Fr.refl _ _)).mono ?_; rintro e w1 ⟨rfl, hP1', _⟩; have hP1 := hide hP1'; clear hP1')
            | (guard_target = wpList _ _ _ (⟨_, Op.call { callee := Callee.builtin Builtin.append, args := _, argTypes := _ }, _, _, _, _⟩ :: _) _ _; go_must (refine wpList_app1 rfl _ _ rfl _ _ _ rfl (own_fr (unhide hP1).fown ((Fr.refl _ []).alloc _) (by simp)) _ rfl (.int .i64 ((nf k : Nat) : Int)) (by go_simp) rfl (by omega) ?_; intro g cap w3 hown3' hF3' hg3'; have hown3 := hide hown3'; have hF3 := hide hF3'; have hg3 := hide hg3'; clear hown3' hF3' hg3'; try simp only [Act.put, List.setIfInBounds_toArray, List.set_cons_zero, List.set_cons_succ])))
          refine ⟨⟨k + 1, by omega, rfl, ?_⟩, by simp [intOf]; omega⟩
          rw [e1]
          exact EA.app ((unhide hP1).keep ((Fr.refl _ []).alloc _)) (unhide HEB) hjN (unhide Hsn) (by omega) (unhide hown3) (unhide hF3) (unhide hg3)
        · have Hsn := hide hsn
          have e2 : (p1 X.s seen0 nf k).hear (nf k) = p1 X.s seen0 nf k := by simp [PS.hear, hsn]
          clear hsn
          go_wp2_with (go_at_call 14; refine (EHx.callOld (unhide hP) (unhide HEB) hjN (unhide Hsn)).mono ?_; rintro e w1 ⟨rfl, rfl⟩)
          refine ⟨⟨k + 1, by omega, rfl, ?_⟩, by simp [intOf]; omega⟩
          rw [e1, e2]
          exact EP.more (unhide hP) (by omega)
    · obtain rfl : k = nn := by omega
      have hfw : ∀ g ∈ X.nb :: X.jb :: X.hb :: X.qb :: ob X.v0, g < w.heap.size := fun g hg => by
        simp only [List.mem_cons] at hg
        rcases hg with h | h | h | h | h
        · exact (unhide H0).eb.lt g (by simp [h])
        · exact (unhide H0).eb.lt g (by simp [h])
        · exact (unhide H0).eb.lt g (by simp [h])
        · exact (unhide H0).eb.lt g (by simp [h])
        · exact own_lt (unhide H0).own g h
      have c9 : wr.cell? ⟨w.heap.size, 9, none⟩ = some (.slice ba bn bcap) := (unhide hP).fr.cell b9 (fun hm => by have := hfw _ hm; simp at this)
      have hnf : ∀ q : Int, ¬ ((k : Int) < (k : Int)) := fun q => by omega
      clear hfw
      rename Value => fv0
      go_wp2_with fail
      go_loopw [59, 8] (fun iv fv wr => ∃ i : Nat, i ≤ bn ∧ iv = .int .i64 (i : Int) ∧ Hid (EP X wB wr (p2 (p1 X.s seen0 nf k) (fun i => bq X.cI X.id X.s X.snd (bf i) (bx i)) bf i) (k + 2 * i) fv)) (fun iv _ _ => bn - (intOf iv).toNat)
      case atStart => exact ⟨0, by omega, rfl, hP⟩
      case round =>
        obtain ⟨i, hi, rfl, hP2⟩ := hrel
        by_cases hil : i < bn
        · obtain rfl : ba = some ⟨bb, 0, none⟩ := by
            rcases (unhide H0).ba0 with h | h
            · omega
            · exact h
          obtain ⟨hb1, hb2, hb3⟩ : bb ∉ [X.nb, X.jb, X.hb, X.qb, X.ib, X.cb, X.vb] ∧ bb ∉ ob X.v0 ∧ bb ≠ ab := by
            rcases (unhide H0).bap with h | h
            · omega
            · exact h
          have hbh : bb ∉ X.nb :: X.jb :: X.hb :: X.qb :: ob X.v0 := by
            simp only [List.mem_cons, not_or] at hb1 ⊢
            exact ⟨hb1.1, hb1.2.1, hb1.2.2.1, hb1.2.2.2.1, hb2⟩
          have m20 : wr.cell? ⟨bb, i * 2, none⟩ = some (.int .i64 ((bf i : Nat) : Int)) := by
            rw [Nat.mul_comm]
            exact (unhide hP2).fr.cell ((unhide HFB).cell ((unhide H0).bl0 i hil) (by simp; exact hb3)) hbh
          have m21 : wr.cell? ⟨bb, i * 2 + 1, none⟩ = some (.float .f64 (bw i)) := by
            rw [Nat.mul_comm]
            exact (unhide hP2).fr.cell ((unhide HFB).cell ((unhide H0).bl1 i hil) (by simp; exact hb3)) hbh
          have k0 : (0 : Int) ≤ (i : Int) := by omega
          have k1 : (i : Int) < (bn : Int) := by omega
          have hjN := (unhide H0).bfN i
          clear hb1 hb2 hb3 hbh
          have hst := fun w' => run_store Ybaz.prog w' ⟨wr.heap.size, 1, none⟩ (.float .f64 (bw i)) .plain rfl
          go_upto_region 17 with fail
          obtain ⟨wX, hwX⟩ : ∃ wX, wX = wr.alloc (.cells #[.int .i64 ((bf i : Nat) : Int), .float .f64 (bw i)] 78) := ⟨_, rfl⟩
          have x0 : wX.cell? ⟨wr.heap.size, 0, none⟩ = some (.int .i64 ((bf i : Nat) : Int)) := by rw [hwX]; go_simp
          have x1 : wX.cell? ⟨wr.heap.size, 1, none⟩ = some (.float .f64 (bw i)) := by rw [hwX]; go_simp
          have hFX : Fr wr wX [] := by rw [hwX]; exact (Fr.refl _ _).alloc _
          rw [← hwX]
          have hszX : wX.heap.size = wr.heap.size + 1 := by rw [hwX]; simp
          clear hwX hst m20 m21
          have hPX := hide ((unhide hP2).keep hFX)
          have y0 := (unhide hPX).self
          have y1 := (unhide hPX).ids
          have y2 := (unhide hPX).cost
          have hNX := hide ((unhide hPX).net (unhide HEB))
          have z0 := (unhide hNX).ids.cell (unhide HEB).hs
          have z1 := (unhide hNX).ids.cell (unhide HEB).hsnd
          have s0 : (0 : Int) ≤ ((X.s : Nat) : Int) := by omega
          have s1 : ((X.s : Nat) : Int) < ((X.N : Nat) : Int) := by have := (unhide HEB).hs; omega
          have s2 : (0 : Int) ≤ ((X.snd : Nat) : Int) := by omega
          have s3 : ((X.snd : Nat) : Int) < ((X.N : Nat) : Int) := by omega
          have HFX := hide hFX
          clear hFX
          obtain ⟨qv, hqv⟩ : ∃ qv, bq X.cI X.id X.s X.snd (bf i) (bx i) = qv := ⟨_, rfl⟩
          have hbef : ∀ w', Calls Ybaz.prog 15 #[.float .f64 (X.cw (bf i)), .int .u64 ((X.id X.s : Nat) : Int), .float .f64 (bw i), .int .u64 ((X.id X.snd : Nat) : Int)] w' fun e' w'' => e' = .returned (.bool qv) ∧ w'' = w' := fun w' => by
            rw [← hqv]
            exact before_any _ _ _ _ _ _ w' ((unhide HEB).hcw _) ((unhide H0).bxr i)
          go_region_held3 (fun w' => w'.cell? ⟨X.nb, 0, none⟩ = some (.int .i64 ((X.s : Nat) : Int)) ∧ w'.cell? ⟨X.nb, 1, none⟩ = some (.slice (some ⟨X.ib, 0, none⟩) X.N X.N) ∧ w'.cell? ⟨X.nb, 2, none⟩ = some (.func (.func 11) #[] #[.pointer (some ⟨X.vb, 0, none⟩)]) ∧ w'.cell? ⟨wr.heap.size, 0, none⟩ = some (.int .i64 ((bf i : Nat) : Int)) ∧ w'.cell? ⟨wr.heap.size, 1, none⟩ = some (.float .f64 (bw i)) ∧ w'.cell? ⟨X.ib, X.s, none⟩ = some (.int .u64 ((X.id X.s : Nat) : Int)) ∧ w'.cell? ⟨X.ib, X.snd, none⟩ = some (.int .u64 ((X.id X.snd : Nat) : Int)))
            (exact ⟨y0, y1, y2, x0, x1, z0, z1⟩)
            ((first
              | (go_at_call 15; refine (hbef _).mono ?_; rintro e w1 ⟨rfl, rfl⟩)
              | (refine (cost_any (w := wX.drew) ((unhide hNX).same ((Same.refl _).drew)) (bf i) hjN hN).mono ?_; rintro e w1 ⟨rfl, rfl⟩)))
          have Hqv := hide hqv
          clear hqv hbef z0 z1 y0 y1 y2
          obtain ⟨pc, hpc⟩ : ∃ pc, p2 (p1 X.s seen0 nf k) (fun i => bq X.cI X.id X.s X.snd (bf i) (bx i)) bf i = pc := ⟨_, rfl⟩
          have hpn : p2 (p1 X.s seen0 nf k) (fun i => bq X.cI X.id X.s X.snd (bf i) (bx i)) bf (i + 1) = pc.st2 qv (bf i) := by
            simp only [p2]
            rw [hpc, unhide Hqv]
          rw [hpc] at hP2 hPX
          have Hpn := hide hpn
          clear hpn hpc
          have hlen := (unhide hP2).len
          have hfo := hide (unhide hP2).fout
          cases qv
          · go_wp2_with fail
            refine ⟨⟨i + 1, by omega, rfl, ?_⟩, by simp [intOf]; omega⟩
            rw [unhide Hpn]
            exact EP.more (EP.keep (unhide hPX) (.of_same ((Same.refl _).drew))) (by omega)
          · cases hsn : pc.seen (bf i)
            · have Hsn := hide hsn
              clear hsn
              go_upto_region 18 with fail
              go_region_held3 (fun w' => w'.cell? ⟨wr.heap.size, 0, none⟩ = some (.int .i64 ((bf i : Nat) : Int)))
                ((first | exact x0 | exact x2))
                ((go_at_call 14; refine ((unhide hP2).callNew (unhide HEB) hjN (unhide Hsn) (by omega) (wq := wX.drew.drew) ((unhide HFX).same ((Same.refl _).drew.drew))).mono ?_; rintro e w1 ⟨rfl, hP1', hb1⟩; have hP1 := hide hP1'; clear hP1'; have x2 : w1.cell? ⟨wr.heap.size, 0, none⟩ = some (.int .i64 ((bf i : Nat) : Int)) := (World.cell?_of_block (a := ⟨wr.heap.size, 0, none⟩) (hb1 _ (Nat.le_refl _) (by show wr.heap.size < wX.heap.size; omega))).trans x0; clear hb1))
              go_upto_region 20 with (guard_target = wpList _ _ _ (⟨_, Op.call { callee := Callee.builtin Builtin.append, args := _, argTypes := _ }, _, _, _, _⟩ :: _) _ _; go_must (refine wpList_app1 rfl _ _ rfl _ _ _ rfl (own_fr (unhide hP1).fown ((Fr.refl _ []).alloc _) (by simp)) _ rfl (.int .i64 ((bf i : Nat) : Int)) (by go_simp) rfl (by omega) ?_; intro g cap w3 hown3' hF3' hg3'; have hown3 := hide hown3'; have hF3 := hide hF3'; have hg3 := hide hg3'; clear hown3' hF3' hg3'; try simp only [Act.put, List.setIfInBounds_toArray, List.set_cons_zero, List.set_cons_succ]))
              have hPW := hide (EA.app ((unhide hP1).keep ((Fr.refl _ []).alloc _)) (unhide HEB) hjN (unhide Hsn) (by omega) (unhide hown3) (unhide hF3) (unhide hg3))
              have xW : w3.cell? ⟨wr.heap.size, 0, none⟩ = some (.int .i64 ((bf i : Nat) : Int)) := (unhide hF3).cell (((Fr.refl _ []).alloc _).cell x2 (by simp)) (fun hm => by have := unhide hfo _ hm; simp at this)
              clear hown3 hF3 hg3 hP1 x2
              have hPW2 := EP.keep (unhide hPW) (.of_same ((Same.refl w3).drew))
              obtain ⟨w2, hput2, hP3', hmo3⟩ := hPW2.want (unhide HEB) hjN (by omega)
              have hP3 := hide hP3'
              have j260 := hPW2.js260 (unhide HEB)
              have hqlt := (unhide HEB).lt X.qb (by simp)
              have hjq : X.jb ≠ X.qb := by
                have nd := (unhide HEB).nd
                simp only [List.nodup_cons, List.mem_cons, not_or, List.not_mem_nil, not_false_eq_true, and_true] at nd
                exact nd.2.1.2.1
              have j261 : w2.cell? ⟨X.jb, 260, none⟩ = some (.map (some X.qb)) := (World.cell?_of_block (a := ⟨X.jb, 260, none⟩) (hmo3.block hjq)).trans j260
              have xW2 : w2.cell? ⟨wr.heap.size, 0, none⟩ = some (.int .i64 ((bf i : Nat) : Int)) := (World.cell?_of_block (a := ⟨wr.heap.size, 0, none⟩) (hmo3.block (show wr.heap.size ≠ X.qb by have := (unhide hP2).fr.size; omega))).trans xW
              clear hPW2 hP3' hmo3 hqlt hjq
              go_region_held3 (fun w' => w'.cell? ⟨X.jb, 260, none⟩ = some (.map (some X.qb)) ∧ w'.cell? ⟨wr.heap.size, 0, none⟩ = some (.int .i64 ((bf i : Nat) : Int)))
                ((first | exact ⟨j260, xW⟩ | exact ⟨j261, xW2⟩)) (fail)
              go_wp2_with fail
              refine ⟨⟨i + 1, by omega, rfl, ?_⟩, by simp [intOf]; omega⟩
              rw [unhide Hpn]
              have e2 : pc.st2 true (bf i) = { pc.hear (bf i) with want := setB (pc.hear (bf i)).want (bf i) } := by
                have : (pc.hear (bf i)).want = pc.want := by unfold PS.hear; split <;> rfl
                simp [PS.st2, this]
              rw [e2]
              exact EP.more (unhide hP3) (by omega)
            · have Hsn := hide hsn
              clear hsn
              go_upto_region 18 with fail
              go_region_held3 (fun w' => w'.cell? ⟨wr.heap.size, 0, none⟩ = some (.int .i64 ((bf i : Nat) : Int)))
                ((exact x0))
                ((go_at_call 14; refine (EHx.callOld (EP.keep (unhide hPX) (.of_same ((Same.refl wX).drew.drew))) (unhide HEB) hjN (unhide Hsn)).mono ?_; rintro e w1 ⟨rfl, rfl⟩))
              go_upto_region 20 with fail
              have hPW := hide (EP.keep (unhide hPX) (.of_same ((Same.refl wX).drew.drew)))
              have xW := x0
              have hPW2 := EP.keep (unhide hPW) (.of_same ((Same.refl wX.drew.drew).drew))
              obtain ⟨w2, hput2, hP3', hmo3⟩ := hPW2.want (unhide HEB) hjN (by omega)
              have hP3 := hide hP3'
              have j260 := hPW2.js260 (unhide HEB)
              have hqlt := (unhide HEB).lt X.qb (by simp)
              have hjq : X.jb ≠ X.qb := by
                have nd := (unhide HEB).nd
                simp only [List.nodup_cons, List.mem_cons, not_or, List.not_mem_nil, not_false_eq_true, and_true] at nd
                exact nd.2.1.2.1
              have j261 : w2.cell? ⟨X.jb, 260, none⟩ = some (.map (some X.qb)) := (World.cell?_of_block (a := ⟨X.jb, 260, none⟩) (hmo3.block hjq)).trans j260
              have xW2 : w2.cell? ⟨wr.heap.size, 0, none⟩ = some (.int .i64 ((bf i : Nat) : Int)) := (World.cell?_of_block (a := ⟨wr.heap.size, 0, none⟩) (hmo3.block (show wr.heap.size ≠ X.qb by have := (unhide hP2).fr.size; omega))).trans xW
              clear hPW2 hP3' hmo3 hqlt hjq
              go_region_held3 (fun w' => w'.cell? ⟨X.jb, 260, none⟩ = some (.map (some X.qb)) ∧ w'.cell? ⟨wr.heap.size, 0, none⟩ = some (.int .i64 ((bf i : Nat) : Int)))
                ((first | exact ⟨j260, xW⟩ | exact ⟨j261, xW2⟩)) (fail)
              go_wp2_with fail
              refine ⟨⟨i + 1, by omega, rfl, ?_⟩, by simp [intOf]; omega⟩
              rw [unhide Hpn]
              have e2 : pc.st2 true (bf i) = { pc with want := setB pc.want (bf i) } := by
                have : pc.hear (bf i) = pc := by simp [PS.hear, unhide Hsn]
                simp [PS.st2, this]
              rw [e2]
              exact EP.more (unhide hP3) (by omega)
        · obtain rfl : i = bn := by omega
          have hap0 := (unhide H0).apart m0 (by simp)
          have hap1 := (unhide H0).apart m1 (by simp)
          have hab := (unhide H0).abn
          have hh0 : m0 ∉ X.nb :: X.jb :: X.hb :: X.qb :: ob X.v0 := by
            have := hap0.1
            simp only [List.mem_cons, not_or] at this ⊢
            exact ⟨this.1, this.2.1, this.2.2.1, this.2.2.2.1, hap0.2⟩
          have hh1 : m1 ∉ X.nb :: X.jb :: X.hb :: X.qb :: ob X.v0 := by
            have := hap1.1
            simp only [List.mem_cons, not_or] at this ⊢
            exact ⟨this.1, this.2.1, this.2.2.1, this.2.2.2.1, hap1.2⟩
          have hm0l : m0 < w.heap.size := by
            rcases Nat.lt_or_ge m0 w.heap.size with h | h
            · exact h
            · have := (unhide H0).m0e; simp [Array.getElem?_eq_none h] at this
          have hm1l : m1 < w.heap.size := by
            rcases Nat.lt_or_ge m1 w.heap.size with h | h
            · exact h
            · have := (unhide H0).m1e; simp [Array.getElem?_eq_none h] at this
          have e0 := ((unhide HFB).block m0 hm0l (by simp; exact Ne.symm hab.2.1)).trans (unhide H0).m0e
          have e1 := ((unhide HFB).block m1 hm1l (by simp; exact Ne.symm hab.2.2)).trans (unhide H0).m1e
          have hl1 := p1_len X.s seen0 nf k
          have hl2 := p2_len (p1 X.s seen0 nf k) (fun i => bq X.cI X.id X.s X.snd (bf i) (bx i)) bf i
          have hcall := hide ((unhide hP2).callHear (unhide HEB) (by omega) (by omega) (unhide H0).spec (unhide H0).ok (unhide H0).hl (unhide H0).r515 (unhide H0).r518 (unhide H0).r520 (unhide H0).r777 e0 e1 hh0 hh1 f)
          have hset6 : Hid (SetAt wB ab 6 (up fun n => decide (n = X.snd)) 1) := (unhide HsetB).congr fun j => by
            rw [up_set]
            congr 1
            funext n
            simp [setB]
          clear hap0 hap1 hab hh0 hh1 hm0l hm1l e0 e1 hl1 hl2 c9 b8 b9 g8
          go_wp2_with (first
            | (go_at_call 16; refine (unhide hcall).mono ?_; rintro e w1 ⟨rfl, v1, T1, C1, ed1, r1, hPost'⟩; have hPost := hide hPost'; clear hPost')
            | (go_at_call 17; refine (unhide Hans wB _ _ _ _ _ _ (unhide HFB) (unhide hset6) (unhide hPost)).mono ?_; rintro e w2 ⟨rfl, hR⟩))
          go_end0
          exact ⟨rfl, hR⟩

end Go.Proofs.YbulkbtkoGreatFmt

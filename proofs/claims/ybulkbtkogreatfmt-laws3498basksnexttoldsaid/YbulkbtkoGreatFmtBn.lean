import Derived.Test.YbulkbtkoGreatFmtB23
namespace Go.Proofs.YbulkbtkoGreatFmt
open Go.RowKit
set_option linter.unusedVariables false
set_option linter.unusedSimpArgs false

/-- A []uint8 argument as it lies. -/
def U8 (w : World) (a : Option Addr) (n : Nat) (x : Nat → Nat) : Prop := n = 0 ∨ ∃ b o, a = some ⟨b, o, none⟩ ∧ b < w.heap.size ∧ ∀ i, i < n → w.cell? ⟨b, o + i, none⟩ = some (.int .u8 ((x i : Nat) : Int))
theorem U8.at {w wr : World} {a : Option Addr} {n : Nat} {x : Nat → Nat} (h : U8 w a n x) (hB : Below w.heap.size w wr) {i : Nat} (hi : i < n) : ∃ b o, a = some ⟨b, o, none⟩ ∧ wr.cell? ⟨b, o + i, none⟩ = some (.int .u8 ((x i : Nat) : Int)) := by
  rcases h with h | ⟨b, o, rfl, hlt, hc⟩
  · omega
  · exact ⟨b, o, rfl, cell_stays hB (hc i hi)⟩
/-- The []ZzS3498BBp argument. -/
def Bps (w : World) (a : Option Addr) (n : Nat) (x : Nat → Nat) (y : Nat → Int) : Prop := n = 0 ∨ ∃ b o, a = some ⟨b, o, none⟩ ∧ b < w.heap.size ∧ ∀ i, i < n → w.cell? ⟨b, o + i * 2, none⟩ = some (.int .u8 ((x i : Nat) : Int)) ∧ w.cell? ⟨b, o + i * 2 + 1, none⟩ = some (.int .i8 (y i))
theorem Bps.at {w wr : World} {a : Option Addr} {n : Nat} {x : Nat → Nat} {y : Nat → Int} (h : Bps w a n x y) (hB : Below w.heap.size w wr) {i : Nat} (hi : i < n) : ∃ b o, a = some ⟨b, o, none⟩ ∧ wr.cell? ⟨b, o + i * 2, none⟩ = some (.int .u8 ((x i : Nat) : Int)) ∧ wr.cell? ⟨b, o + i * 2 + 1, none⟩ = some (.int .i8 (y i)) := by
  rcases h with h | ⟨b, o, rfl, hlt, hc⟩
  · omega
  · exact ⟨b, o, rfl, cell_stays hB (hc i hi).1, cell_stays hB (hc i hi).2⟩

/-- What stands once the node and its search are built. -/
structure BN (w wr : World) (X : Cx) (ab m0 m1 zb sb lb : Nat) (seen0 : Nat → Bool) (l : List Nat) (ed : Int) (rr : Nat → Value) : Prop where
  net : Net wr X.ib X.cb X.vb X.N X.id X.cw
  hid : ∀ i, X.id i < 18446744073709551616
  hinj : ∀ i j, i < X.N → j < X.N → X.id i = X.id j → i = j
  hcw : ∀ i, Reads (X.cw i) (X.cI i)
  hN : X.N ≤ 300
  hs : X.s < X.N
  hsnd : X.snd < X.N
  hl0 : X.l0.length ≤ 300
  j1 : X.jf 1 = .map (some X.hb)
  j260 : X.jf 260 = .map (some X.qb)
  node : NodeIs wr X.nb X.ib X.vb X.N X.s X.T X.C ed rr
  ed0 : 0 ≤ ed
  ed1 : ed ≤ 300
  r515 : rr 515 = .map (some m0)
  r516 : rr 516 = .slice none 0 0
  r520 : rr 520 = .slice none 0 0
  r519 : rr 519 = .int .i64 0
  j261 : X.jf 261 = .int .i64 (-1)
  j262 : ∃ x, X.jf 262 = .int .i64 x
  jst : ∀ p, p < 256 → ∃ x, X.jf (4 + p) = .int .i64 x
  l0nd : X.l0.Nodup
  l0s : ∀ j ∈ X.l0, j < X.N ∧ seen0 j = true
  r777 : rr 777 = .map (some m1)
  m0e : wr.heap[m0]? = some (.map #[] 0)
  m1e : wr.heap[m1]? = some (.map #[] 0)
  spec : Spec X.cI X.id X.s l X.T
  ok : TabOk X.N X.s X.id X.cw X.T X.C
  hl : ∀ j ∈ l, j < X.N
  jrow : wr.rowIs X.jb 47 267 X.jf
  j0 : X.jf 0 = X.v0
  j2 : X.jf 2 = .map (some ab)
  j263 : X.jf 263 = .map (some zb)
  heard : SetAt wr X.hb 400 (up seen0) (cntB seen0 X.N)
  wanted : SetAt wr X.qb 400 (up fun _ => false) 0
  own : wr.ownsRow 0 65 3 X.v0 X.l0.length (hdsL X.cw X.id X.s X.l0)
  asked : SetAt wr ab 5 (up fun _ => false) 0
  zset : SetAt wr zb 0 (fun _ => false) 0
  seen : wr.rowIs sb 4 X.N (fun i => .bool (seen0 i))
  inl : wr.rowIs lb 4 X.N (fun i => .bool (decide (i ∈ l)))
  bel : Below w.heap.size w wr
  low : ∀ g ∈ [X.nb, X.jb, X.hb, X.qb, X.ib, X.cb, X.vb, ab, m0, m1, zb, sb, lb], w.heap.size ≤ g
  nd : [X.nb, X.jb, X.hb, X.qb, X.ib, X.cb, X.vb, ab, m0, m1, zb, sb, lb].Nodup
  vfar : ∀ g ∈ ob X.v0, g ∉ [X.nb, X.jb, X.hb, X.qb, X.ib, X.cb, X.vb, ab, m0, m1, zb, sb, lb] ∧ w.heap.size ≤ g

variable {w wr w' : World} {X : Cx} {ab m0 m1 zb sb lb : Nat} {seen0 : Nat → Bool} {l : List Nat} {ed : Int} {rr : Nat → Value}

theorem BN.lt (h : BN w wr X ab m0 m1 zb sb lb seen0 l ed rr) : ∀ g ∈ [X.nb, X.jb, X.hb, X.qb, X.ib, X.cb, X.vb, ab, m0, m1, zb, sb, lb], g < wr.heap.size := by
  intro g hg
  simp only [List.mem_cons, List.not_mem_nil, or_false] at hg
  rcases hg with h1 | h1 | h1 | h1 | h1 | h1 | h1 | h1 | h1 | h1 | h1 | h1 | h1
  · rw [h1]; exact h.node.row.lt
  · rw [h1]; exact h.jrow.lt
  · rw [h1]; exact h.heard.lt
  · rw [h1]; exact h.wanted.lt
  · rw [h1]; exact h.net.ids.lt
  · rw [h1]; exact h.net.cost.lt
  · rw [h1]; exact World.block_lt_of_cell? _ _ h.net.var
  · rw [h1]; exact h.asked.lt
  · rw [h1]; exact lt_of_some h.m0e
  · rw [h1]; exact lt_of_some h.m1e
  · rw [h1]; exact h.zset.lt
  · rw [h1]; exact h.seen.lt
  · rw [h1]; exact h.inl.lt

/-- Where no elder block turns. -/
theorem BN.later (h : BN w wr X ab m0 m1 zb sb lb seen0 l ed rr) (k : Below wr.heap.size wr w') : BN w w' X ab m0 m1 zb sb lb seen0 l ed rr :=
  have hb : ∀ {b : Nat} {o : Obj}, wr.heap[b]? = some o → w'.heap[b]? = some o := fun {b o} e => (k.block b (lt_of_some e)).trans e
  { h with
    net := h.net.of_blocks (k.block _ h.net.ids.lt) (k.block _ h.net.cost.lt) (k.block _ (World.block_lt_of_cell? _ _ h.net.var))
    node := ⟨h.node.row.of_block (k.block _ h.node.row.lt), h.node.r0, h.node.r1, h.node.r2⟩
    m0e := hb h.m0e
    m1e := hb h.m1e
    jrow := h.jrow.of_block (k.block _ h.jrow.lt)
    heard := h.heard.of_block (k.block _ h.heard.lt)
    wanted := h.wanted.of_block (k.block _ h.wanted.lt)
    own := own_fr h.own (Fr.of_below (S := []) k) (by simp)
    asked := h.asked.of_block (k.block _ h.asked.lt)
    zset := h.zset.of_block (k.block _ h.zset.lt)
    seen := h.seen.of_block (k.block _ h.seen.lt)
    inl := h.inl.of_block (k.block _ h.inl.lt)
    bel := h.bel.trans (k.mono h.bel.size) }

theorem ndF_518 {T : Nat → Int} {C : Nat → Nat} {ed : Int} {r : Nat → Value} {v : Value} (k : Nat) : (if k = 518 then v else ndF T C ed r k) = ndF T C ed (putF r 518 v) k := by
  unfold ndF putF
  by_cases c : k = 518
  · subst c; simp
  · simp only [c, if_false]

/-- 'n.joining = js'. -/
theorem BN.join (h : BN w wr X ab m0 m1 zb sb lb seen0 l ed rr) (hX : X.r = putF rr 518 (.pointer (some ⟨X.jb, 0, none⟩))) : BN w (wr.setCell ⟨X.nb, 518, none⟩ (.pointer (some ⟨X.jb, 0, none⟩))) X ab m0 m1 zb sb lb seen0 l ed X.r := by
  have nd := h.nd
  have hn : ∀ g ∈ [X.jb, X.hb, X.qb, X.ib, X.cb, X.vb, ab, m0, m1, zb, sb, lb], g ≠ X.nb := fun g hg e => by
    rw [List.nodup_cons] at nd
    exact nd.1 (e ▸ hg)
  have hb : ∀ g ∈ [X.jb, X.hb, X.qb, X.ib, X.cb, X.vb, ab, m0, m1, zb, sb, lb], (wr.setCell ⟨X.nb, 518, none⟩ (.pointer (some ⟨X.jb, 0, none⟩))).heap[g]? = wr.heap[g]? := fun g hg => Below.heap_setCell _ _ _ _ (hn g hg)
  exact { h with
    net := h.net.of_blocks (hb _ (by simp)) (hb _ (by simp)) (hb _ (by simp))
    node := ⟨(h.node.row.set 518 _).congr fun k hk => by rw [hX]; exact ndF_518 k, by rw [hX]; simp [putF, h.node.r0], by rw [hX]; simp [putF, h.node.r1], by rw [hX]; simp [putF, h.node.r2]⟩
    r515 := by rw [hX]; simp [putF, h.r515]
    r516 := by rw [hX]; simp [putF, h.r516]
    r520 := by rw [hX]; simp [putF, h.r520]
    r519 := by rw [hX]; simp [putF, h.r519]
    r777 := by rw [hX]; simp [putF, h.r777]
    m0e := (hb _ (by simp)).trans h.m0e
    m1e := (hb _ (by simp)).trans h.m1e
    jrow := h.jrow.of_block (hb _ (by simp))
    heard := h.heard.of_block (hb _ (by simp))
    wanted := h.wanted.of_block (hb _ (by simp))
    own := own_of_block h.own fun g hg => Below.heap_setCell _ _ _ _ (fun e => (h.vfar g hg).1 (by rw [show g = X.nb from e]; simp))
    asked := h.asked.of_block (hb _ (by simp))
    zset := h.zset.of_block (hb _ (by simp))
    seen := h.seen.of_block (hb _ (by simp))
    inl := h.inl.of_block (hb _ (by simp))
    bel := h.bel.setCell (p := ⟨X.nb, 518, none⟩) (h.low _ (by simp)) _ }

/-- Ahead of the message all that entriesHeard asks stands. -/
theorem BN.ready (h : BN w wr X ab m0 m1 zb sb lb seen0 l ed X.r) (r518 : X.r 518 = .pointer (some ⟨X.jb, 0, none⟩)) {nsb ncap bb nn bn bcap : Nat} {nf bf bw : Nat → Nat} {bx : Nat → Int} {ba : Option Addr}
    (hns : ∀ i, i < nn → wr.cell? ⟨nsb, i, none⟩ = some (.int .i64 ((nf i : Nat) : Int))) (nn0 : 0 < nn) (nn1 : nn ≤ 301) (nfN : ∀ i, nf i < X.N) (nf0 : nf 0 = X.snd) (bn1 : bn ≤ 300)
    (bl0 : ∀ i, i < bn → wr.cell? ⟨bb, 2 * i, none⟩ = some (.int .i64 ((bf i : Nat) : Int))) (bl1 : ∀ i, i < bn → wr.cell? ⟨bb, 2 * i + 1, none⟩ = some (.float .f64 (bw i)))
    (bfN : ∀ i, bf i < X.N) (bxr : ∀ i, Reads (bw i) (bx i)) (ba0 : bn = 0 ∨ ba = some ⟨bb, 0, none⟩)
    (far1 : nsb ∉ [X.nb, X.jb, X.hb, X.qb, X.ib, X.cb, X.vb, ab, m0, m1, zb, sb, lb] ∧ nsb ∉ ob X.v0) (far2 : bn = 0 ∨ (bb ∉ [X.nb, X.jb, X.hb, X.qb, X.ib, X.cb, X.vb, ab, m0, m1, zb, sb, lb] ∧ bb ∉ ob X.v0)) :
    BJ w wr X ⟨ab, nsb, ncap, bb, nn, bn, m0, m1, zb, sb, wr.heap.size + 1, lb, wr.heap.size, wr.heap.size + 2, nf, bf, bw, bx, seen0, l, ed, mcOf (.slice (some ⟨nsb, 0, none⟩) nn ncap) (.slice ba bn bcap), ba, bcap⟩ := by
  have nd := h.nd
  have lt := h.lt
  have hnl : nsb < wr.heap.size := World.block_lt_of_cell? _ _ (hns 0 nn0)
  have hbl : bn = 0 ∨ bb < wr.heap.size := by
    by_cases c : bn = 0
    · exact .inl c
    · exact .inr (World.block_lt_of_cell? _ _ (bl0 0 (by omega)))
  have hvl := own_lt h.own
  simp only [List.mem_cons, not_or, List.not_mem_nil, not_false_eq_true, and_true, List.nodup_cons] at nd far1 far2
  have eb : EB X wr := {
    net := h.net
    hid := h.hid
    hinj := h.hinj
    hcw := h.hcw
    hN := h.hN
    hs := h.hs
    hsnd := h.hsnd
    nd := by
      simp only [List.mem_cons, not_or, List.not_mem_nil, not_false_eq_true, and_true, List.nodup_cons]
      grind
    hv0 := fun g hg hm => (h.vfar g hg).1 (by
      simp only [List.mem_cons, List.not_mem_nil, or_false] at hm ⊢
      grind)
    lt := fun g hg => lt g (by
      simp only [List.mem_cons, List.not_mem_nil, or_false] at hg ⊢
      grind)
    hl0 := h.hl0
    j1 := h.j1
    j260 := h.j260 }
  have ltA : ∀ g ∈ [X.nb, X.jb, X.hb, X.qb, X.ib, X.cb, X.vb, ab, nsb, m0, m1], g < wr.heap.size := fun g hg => by
    simp only [List.mem_cons, List.not_mem_nil, or_false] at hg
    by_cases c : g = nsb
    · rw [c]; exact hnl
    · refine lt g ?_
      simp only [List.mem_cons, List.not_mem_nil, or_false]
      grind
  have farTop : ∀ g, wr.heap.size ≤ g → FarOf X ⟨ab, nsb, ncap, bb, nn, bn, m0, m1, zb, sb, wr.heap.size + 1, lb, wr.heap.size, wr.heap.size + 2, nf, bf, bw, bx, seen0, l, ed, mcOf (.slice (some ⟨nsb, 0, none⟩) nn ncap) (.slice ba bn bcap), ba, bcap⟩ g := fun g hg => by
    refine ⟨fun hm => ?_, fun hm => ?_, fun hm => ?_, ?_⟩
    · have := ltA g (by
        simp only [List.mem_cons, List.not_mem_nil, or_false] at hm ⊢
        grind)
      omega
    · have := hvl g hm; omega
    · have := ltA g (by
        simp only [List.mem_cons, List.not_mem_nil, or_false] at hm ⊢
        grind)
      omega
    · rcases hbl with h1 | h1
      · exact .inl h1
      · exact .inr (by show g ≠ bb; omega)
  have farOld : ∀ g ∈ [zb, sb, lb], FarOf X ⟨ab, nsb, ncap, bb, nn, bn, m0, m1, zb, sb, wr.heap.size + 1, lb, wr.heap.size, wr.heap.size + 2, nf, bf, bw, bx, seen0, l, ed, mcOf (.slice (some ⟨nsb, 0, none⟩) nn ncap) (.slice ba bn bcap), ba, bcap⟩ g := fun g hg => by
    have hgo : g ∈ [X.nb, X.jb, X.hb, X.qb, X.ib, X.cb, X.vb, ab, m0, m1, zb, sb, lb] := by
      simp only [List.mem_cons, List.not_mem_nil, or_false] at hg ⊢
      grind
    simp only [List.mem_cons, List.not_mem_nil, or_false] at hg
    refine ⟨?_, fun hm => (h.vfar g hm).1 hgo, ?_, ?_⟩
    · simp only [List.mem_cons, not_or, List.not_mem_nil, not_false_eq_true, and_true]
      grind
    · show g ∉ [ab, nsb, m0, m1]
      simp only [List.mem_cons, not_or, List.not_mem_nil, not_false_eq_true, and_true]
      grind
    · rcases far2 with h1 | h1
      · exact .inl h1
      · refine .inr (fun e => ?_)
        have e' : g = bb := e
        grind
  refine {
    e0 := ?_
    st := ?_
    bel := h.bel
    xb := rfl
    wb := rfl
    z := rfl
    seen := h.seen
    inl := h.inl
    zset := h.zset
    mc := rfl }
  · exact {
      eb := eb
      node := h.node
      ed0 := h.ed0
      ed1 := h.ed1
      r515 := h.r515
      r516 := h.r516
      r518 := r518
      r520 := h.r520
      r777 := h.r777
      m0e := h.m0e
      m1e := h.m1e
      spec := h.spec
      ok := h.ok
      hl := h.hl
      jrow := h.jrow
      j0 := h.j0
      j2 := h.j2
      heard := h.heard
      wanted := h.wanted
      own := h.own
      asked := h.asked
      apart := fun g hg => by
        have hg' : g ∈ [ab, nsb, m0, m1] := hg
        simp only [List.mem_cons, List.not_mem_nil, or_false] at hg'
        by_cases c : g = nsb
        · subst c
          refine ⟨?_, far1.2⟩
          simp only [List.mem_cons, not_or, List.not_mem_nil, not_false_eq_true, and_true]
          grind
        · have hgo : g ∈ [X.nb, X.jb, X.hb, X.qb, X.ib, X.cb, X.vb, ab, m0, m1, zb, sb, lb] := by
            simp only [List.mem_cons, List.not_mem_nil, or_false]
            grind
          refine ⟨?_, fun hm => (h.vfar g hm).1 hgo⟩
          simp only [List.mem_cons, not_or, List.not_mem_nil, not_false_eq_true, and_true]
          grind
      abn := by
        show ab ≠ nsb ∧ ab ≠ m0 ∧ ab ≠ m1
        grind
      nsl := hns
      nn0 := nn0
      nn1 := nn1
      nfN := nfN
      nf0 := nf0
      bn1 := bn1
      bl0 := bl0
      bl1 := bl1
      bfN := bfN
      bxr := bxr
      bap := by
        rcases far2 with h1 | h1
        · exact .inl h1
        · refine .inr ⟨?_, h1.2, ?_⟩
          · show bb ∉ _
            simp only [List.mem_cons, not_or, List.not_mem_nil, not_false_eq_true, and_true]
            grind
          · show bb ≠ ab
            grind
      ba0 := ba0
      mc8 := rfl
      mc9 := rfl
      mcs := rfl }
  · refine ⟨fun g hg => ?_, ?_, fun g hg => farTop g (by have : wr.heap.size + 2 ≤ g := hg; omega), fun g hg => ?_, ?_, h.j263, fun g hg => ?_, h.r519, h.j261, h.j262, h.jst, h.l0nd, h.l0s⟩
    · have hg' : g ∈ [zb, sb, wr.heap.size + 1, lb, wr.heap.size] := hg
      simp only [List.mem_cons, List.not_mem_nil, or_false] at hg'
      rcases hg' with h1 | h1 | h1 | h1 | h1
      · exact farOld g (by simp [h1])
      · exact farOld g (by simp [h1])
      · exact farTop g (by omega)
      · exact farOld g (by simp [h1])
      · exact farTop g (by omega)
    · have h1 := lt zb (by simp)
      have h2 := lt sb (by simp)
      have h3 := lt lb (by simp)
      show [zb, sb, wr.heap.size + 1, lb, wr.heap.size].Nodup
      simp only [List.mem_cons, not_or, List.not_mem_nil, not_false_eq_true, and_true, List.nodup_cons]
      grind
    · have hg' : g ∈ [zb, sb, wr.heap.size + 1, lb, wr.heap.size] := hg
      have hsz := h.bel.size
      simp only [List.mem_cons, List.not_mem_nil, or_false] at hg'
      show w.heap.size ≤ g ∧ g < wr.heap.size + 2
      rcases hg' with h1 | h1 | h1 | h1 | h1
      · have := lt zb (by simp); have := h.low zb (by simp); omega
      · have := lt sb (by simp); have := h.low sb (by simp); omega
      · omega
      · have := lt lb (by simp); have := h.low lb (by simp); omega
      · omega
    · have hsz := h.bel.size
      show w.heap.size ≤ wr.heap.size + 2
      omega
    · have hg' : g ∈ zb :: ab :: X.nb :: X.jb :: X.hb :: X.qb :: ob X.v0 := hg
      simp only [List.mem_cons] at hg'
      rcases hg' with h1 | h1 | h1 | h1 | h1 | h1 | h1
      · exact h.low g (by simp [h1])
      · exact h.low g (by simp [h1])
      · exact h.low g (by simp [h1])
      · exact h.low g (by simp [h1])
      · exact h.low g (by simp [h1])
      · exact h.low g (by simp [h1])
      · exact (h.vfar g h1).2

end Go.Proofs.YbulkbtkoGreatFmt

import Derived.Test.YbulkbtkoGreatFmtCmp
namespace Go.Proofs.YbulkbtkoGreatFmt
open Go.RowKit
set_option linter.unusedVariables false
set_option linter.unusedSimpArgs false

/-- What stands fast while the next nodes are asked. -/
structure APar where
  (X : Cx)
  (ab zb lgb nw : Nat)
  (v lv0 : Value)
  (want : Nat → Bool)
  (T : Nat → Int)
  (C : Nat → Nat)
  (ed : Int)

/-- The blocks lie apart. -/
structure ASt (w : World) (P : APar) : Prop where
  nd : [P.X.nb, P.X.jb, P.X.qb, P.X.ib, P.X.cb, P.X.vb, P.ab, P.zb, P.lgb].Nodup
  hv : ∀ g ∈ ob P.v, g ∉ [P.X.nb, P.X.jb, P.X.qb, P.X.ib, P.X.cb, P.X.vb, P.ab, P.zb, P.lgb]
  hl : ∀ g ∈ ob P.lv0, g ∉ [P.X.nb, P.X.jb, P.X.qb, P.X.ib, P.X.cb, P.X.vb, P.ab, P.zb, P.lgb] ∧ g ∉ ob P.v
  lt : ∀ g ∈ [P.X.nb, P.X.jb, P.X.qb, P.X.ib, P.X.cb, P.X.vb, P.ab, P.zb, P.lgb], g < w.heap.size
  lv : ∀ g ∈ ob P.v, g < w.heap.size
  hid : ∀ i, P.X.id i < 18446744073709551616
  hcw : ∀ i, Reads (P.X.cw i) (P.X.cI i)
  hN : P.X.N ≤ 300
  hs : P.X.s < P.X.N

structure AK (w wr : World) (P : APar) (F rr : Nat → Value) (nl : List Nat) (askS awS : Int → Bool) (na nw m : Nat) (L : List LogE) : Prop where
  st : ASt w P
  node : NodeIs wr P.X.nb P.X.ib P.X.vb P.X.N P.X.s P.T P.C P.ed rr
  jrow : wr.rowIs P.X.jb 47 267 F
  asked : SetAt wr P.ab m askS na
  awaited : SetAt wr P.zb m awS nw
  wanted : SetAt wr P.X.qb 2000 (up P.want) P.nw
  own : wr.ownsRow 0 65 3 P.v nl.length (hdsL P.X.cw P.X.id P.X.s nl)
  net : Net wr P.X.ib P.X.cb P.X.vb P.X.N P.X.id P.X.cw
  log : ∃ lv, LogAt wr P.lgb L lv ∧ ∀ g ∈ ob lv, g ∈ ob P.lv0 ∨ w.heap.size ≤ g
  fr : Fr w wr (P.X.nb :: P.X.jb :: P.ab :: P.zb :: P.lgb :: (ob P.v ++ ob P.lv0))
  nlt : ∀ j ∈ nl, j < P.X.N
  len : nl.length ≤ 901

variable {w wr w' : World} {P : APar} {F rr : Nat → Value} {nl : List Nat} {askS awS : Int → Bool} {na nw m : Nat} {L : List LogE}

/-- The log's row lies apart from the fast blocks and from the nodes' row. -/
theorem AK.logfar (h : AK w wr P F rr nl askS awS na nw m L) {lv : Value} (hlv : ∀ g ∈ ob lv, g ∈ ob P.lv0 ∨ w.heap.size ≤ g) : ∀ g ∈ ob lv, g ∉ [P.X.nb, P.X.jb, P.X.qb, P.X.ib, P.X.cb, P.X.vb, P.ab, P.zb, P.lgb] ∧ g ∉ ob P.v := fun g hg => by
  rcases hlv g hg with h1 | h1
  · exact h.st.hl g h1
  · exact ⟨fun hm => by have := h.st.lt g hm; omega, fun hm => by have := h.st.lv g hm; omega⟩

/-- Where only blocks of S turn, S apart from all but what is said anew. -/
theorem AK.keep (h : AK w wr P F rr nl askS awS na nw m L) (hf : Fr wr w' []) : AK w w' P F rr nl askS awS na nw m L := by
  obtain ⟨lv, h1, h2⟩ := h.log
  exact { h with
    node := ⟨h.node.row.of_block (hf.block _ h.node.row.lt (by simp)), h.node.r0, h.node.r1, h.node.r2⟩
    jrow := h.jrow.of_block (hf.block _ h.jrow.lt (by simp))
    asked := h.asked.of_block (hf.block _ h.asked.lt (by simp))
    awaited := h.awaited.of_block (hf.block _ h.awaited.lt (by simp))
    wanted := h.wanted.of_block (hf.block _ h.wanted.lt (by simp))
    own := own_fr h.own hf (by simp)
    net := h.net.fr hf (by simp) (by simp) (by simp)
    log := ⟨lv, h1.fr hf (by simp) (by simp), h2⟩
    fr := h.fr.wide hf (by simp) }

/-- A store into the search. -/
theorem AK.setJ (h : AK w wr P F rr nl askS awS na nw m L) (i : Nat) (u : Value) : AK w (wr.setCell ⟨P.X.jb, i, none⟩ u) P (putF F i u) rr nl askS awS na nw m L := by
  have nd := h.st.nd
  simp only [List.mem_cons, not_or, List.not_mem_nil, not_false_eq_true, and_true, List.nodup_cons] at nd
  obtain ⟨lv, h1, h2⟩ := h.log
  have hlf := h.logfar h2
  have hb : ∀ g, g ≠ P.X.jb → (wr.setCell ⟨P.X.jb, i, none⟩ u).heap[g]? = wr.heap[g]? := fun g hg => Below.heap_setCell _ _ _ _ hg
  have hf : Fr wr (wr.setCell ⟨P.X.jb, i, none⟩ u) [P.X.jb] := (Fr.refl _ _).set (by simp) _ _
  exact { h with
    node := ⟨h.node.row.of_block (hb _ (by grind)), h.node.r0, h.node.r1, h.node.r2⟩
    jrow := h.jrow.set i u
    asked := h.asked.of_block (hb _ (by grind))
    awaited := h.awaited.of_block (hb _ (by grind))
    wanted := h.wanted.of_block (hb _ (by grind))
    own := own_of_block h.own fun g hg => hb g (fun e => h.st.hv g hg (by simp [e]))
    net := h.net.of_blocks (hb _ (by grind)) (hb _ (by grind)) (hb _ (by grind))
    log := ⟨lv, h1.fr hf (by simp; grind) (fun g hg => by simp; exact fun e => (hlf g hg).1 (by simp [e])), h2⟩
    fr := h.fr.set (by simp) _ _ }

theorem ndF_put_rest {T : Nat → Int} {C : Nat → Nat} {ed : Int} {r : Nat → Value} {u : Value} {i : Nat} (h1 : 515 ≤ i) (h2 : i < 789) (k : Nat) : (if k = i then u else ndF T C ed r k) = ndF T C ed (putF r i u) k := by
  unfold ndF putF
  by_cases c : k = i
  · subst c
    rw [if_pos rfl, if_neg (by omega), if_neg (by omega), if_neg (by omega), if_pos rfl]
  · simp only [c, if_false]

/-- A store into the node beside its table. -/
theorem AK.setN (h : AK w wr P F rr nl askS awS na nw m L) {i : Nat} (h1 : 515 ≤ i) (h2 : i < 789) (u : Value) : AK w (wr.setCell ⟨P.X.nb, i, none⟩ u) P F (putF rr i u) nl askS awS na nw m L := by
  have nd := h.st.nd
  simp only [List.mem_cons, not_or, List.not_mem_nil, not_false_eq_true, and_true, List.nodup_cons] at nd
  obtain ⟨lv, g1, g2⟩ := h.log
  have hlf := h.logfar g2
  have hb : ∀ g, g ≠ P.X.nb → (wr.setCell ⟨P.X.nb, i, none⟩ u).heap[g]? = wr.heap[g]? := fun g hg => Below.heap_setCell _ _ _ _ hg
  have hf : Fr wr (wr.setCell ⟨P.X.nb, i, none⟩ u) [P.X.nb] := (Fr.refl _ _).set (by simp) _ _
  exact { h with
    node := ⟨(h.node.row.set i u).congr fun k hk => ndF_put_rest h1 h2 k, by simp only [putF]; rw [if_neg (by omega)]; exact h.node.r0, by simp only [putF]; rw [if_neg (by omega)]; exact h.node.r1, by simp only [putF]; rw [if_neg (by omega)]; exact h.node.r2⟩
    jrow := h.jrow.of_block (hb _ (by grind))
    asked := h.asked.of_block (hb _ (by grind))
    awaited := h.awaited.of_block (hb _ (by grind))
    wanted := h.wanted.of_block (hb _ (by grind))
    own := own_of_block h.own fun g hg => hb g (fun e => h.st.hv g hg (by simp [e]))
    net := h.net.of_blocks (hb _ (by grind)) (hb _ (by grind)) (hb _ (by grind))
    log := ⟨lv, g1.fr hf (by simp; grind) (fun g hg => by simp; exact fun e => (hlf g hg).1 (by simp [e])), g2⟩
    fr := h.fr.set (by simp) _ _ }

/-- 'asked[j] = true'. -/
theorem AK.ask (h : AK w wr P F rr nl askS awS na nw m L) (j : Nat) (hj : j < P.X.N) (hm : m ≤ 5000) :
    ∃ w', (Instr.mapUpdate 41 (.map (some P.ab)) (.int .i64 ((j : Nat) : Int)) (.bool true)).run Ybaz.prog wr = .ok () w' ∧ AK w w' P F rr nl (fun k => decide (k = ((j : Nat) : Int)) || askS k) awS (if askS ((j : Nat) : Int) then na else na + 1) nw (m + 1) L ∧ w'.heap.size = wr.heap.size ∧ (∀ g, g ≠ P.ab → w'.heap[g]? = wr.heap[g]?) := by
  have hN := h.st.hN
  obtain ⟨w', hrun, hset, hmo⟩ := h.asked.put (j := ((j : Nat) : Int)) (iwf (by omega) (by omega)) (by have : maxLen = 9223372036854775807 := rfl; omega)
  have nd := h.st.nd
  simp only [List.mem_cons, not_or, List.not_mem_nil, not_false_eq_true, and_true, List.nodup_cons] at nd
  obtain ⟨lv, g1, g2⟩ := h.log
  have hlf := h.logfar g2
  have hb : ∀ g, g ≠ P.ab → w'.heap[g]? = wr.heap[g]? := fun g hg => hmo.block hg
  have hf : Fr wr w' [P.ab] := .of_map hmo (by simp)
  refine ⟨w', hrun, { h with
    node := ⟨h.node.row.of_block (hb _ (by grind)), h.node.r0, h.node.r1, h.node.r2⟩
    jrow := h.jrow.of_block (hb _ (by grind))
    asked := hset
    awaited := (h.awaited.of_block (hb _ (by grind))).mono (by omega)
    wanted := h.wanted.of_block (hb _ (by grind))
    own := own_of_block h.own fun g hg => hb g (fun e => h.st.hv g hg (by simp [e]))
    net := h.net.of_blocks (hb _ (by grind)) (hb _ (by grind)) (hb _ (by grind))
    log := ⟨lv, g1.fr hf (by simp; grind) (fun g hg => by simp; exact fun e => (hlf g hg).1 (by simp [e])), g2⟩
    fr := h.fr.trans (hf.mono (by simp)) }, hmo.size, hb⟩

/-- 'awaited[j] = true'. -/
theorem AK.await (h : AK w wr P F rr nl askS awS na nw m L) (j : Nat) (hj : j < P.X.N) (hm : m ≤ 5000) :
    ∃ w', (Instr.mapUpdate 41 (.map (some P.zb)) (.int .i64 ((j : Nat) : Int)) (.bool true)).run Ybaz.prog wr = .ok () w' ∧ AK w w' P F rr nl askS (fun k => decide (k = ((j : Nat) : Int)) || awS k) na (if awS ((j : Nat) : Int) then nw else nw + 1) (m + 1) L ∧ w'.heap.size = wr.heap.size ∧ (∀ g, g ≠ P.zb → w'.heap[g]? = wr.heap[g]?) := by
  have hN := h.st.hN
  obtain ⟨w', hrun, hset, hmo⟩ := h.awaited.put (j := ((j : Nat) : Int)) (iwf (by omega) (by omega)) (by have : maxLen = 9223372036854775807 := rfl; omega)
  have nd := h.st.nd
  simp only [List.mem_cons, not_or, List.not_mem_nil, not_false_eq_true, and_true, List.nodup_cons] at nd
  obtain ⟨lv, g1, g2⟩ := h.log
  have hlf := h.logfar g2
  have hb : ∀ g, g ≠ P.zb → w'.heap[g]? = wr.heap[g]? := fun g hg => hmo.block hg
  have hf : Fr wr w' [P.zb] := .of_map hmo (by simp)
  refine ⟨w', hrun, { h with
    node := ⟨h.node.row.of_block (hb _ (by grind)), h.node.r0, h.node.r1, h.node.r2⟩
    jrow := h.jrow.of_block (hb _ (by grind))
    asked := (h.asked.of_block (hb _ (by grind))).mono (by omega)
    awaited := hset
    wanted := h.wanted.of_block (hb _ (by grind))
    own := own_of_block h.own fun g hg => hb g (fun e => h.st.hv g hg (by simp [e]))
    net := h.net.of_blocks (hb _ (by grind)) (hb _ (by grind)) (hb _ (by grind))
    log := ⟨lv, g1.fr hf (by simp; grind) (fun g hg => by simp; exact fun e => (hlf g hg).1 (by simp [e])), g2⟩
    fr := h.fr.trans (hf.mono (by simp)) }, hmo.size, hb⟩

/-- 'send(j, m)': one message more in the log. -/
theorem AK.send (h : AK w wr P F rr nl askS awS na nw m L) (hn : L.length ≤ 5000) (e : LogE) :
    Calls Ybaz.prog 10 #[.int .i64 e.dest, .agg (msgC e.k e.h e.a e.na e.nn e.nc), .pointer (some ⟨P.lgb, 0, none⟩)] wr fun r w' => r = .returned (.tuple #[]) ∧ AK w w' P F rr nl askS awS na nw m (L ++ [e]) ∧ wr.heap.size ≤ w'.heap.size ∧ (∀ g, g < wr.heap.size → g ∉ ob P.lv0 → g ≠ P.lgb → g < w.heap.size → w'.heap[g]? = wr.heap[g]?) := by
  have nd := h.st.nd
  simp only [List.mem_cons, not_or, List.not_mem_nil, not_false_eq_true, and_true, List.nodup_cons] at nd
  obtain ⟨lv, g1, g2⟩ := h.log
  have hlf := h.logfar g2
  refine (send_any g1 hn e).mono ?_
  rintro r w' ⟨hr, lv', k1, k2, k3⟩
  have hsz := h.fr.size
  have far : ∀ g ∈ [P.X.nb, P.X.jb, P.X.qb, P.X.ib, P.X.cb, P.X.vb, P.ab, P.zb], g ∉ P.lgb :: ob lv := fun g hg hm => by
    rcases List.mem_cons.1 hm with h1 | h1
    · simp only [List.mem_cons, List.not_mem_nil, or_false] at hg
      grind
    · exact (hlf g h1).1 (by simp only [List.mem_cons, List.not_mem_nil, or_false] at hg ⊢; grind)
  have hb : ∀ {g}, g ∈ [P.X.nb, P.X.jb, P.X.qb, P.X.ib, P.X.cb, P.X.vb, P.ab, P.zb] → g < wr.heap.size → w'.heap[g]? = wr.heap[g]? := fun {g} hg hl => k2.block g hl (far g hg)
  refine ⟨hr, { h with
    node := ⟨h.node.row.of_block (hb (by simp) h.node.row.lt), h.node.r0, h.node.r1, h.node.r2⟩
    jrow := h.jrow.of_block (hb (by simp) h.jrow.lt)
    asked := h.asked.of_block (hb (by simp) h.asked.lt)
    awaited := h.awaited.of_block (hb (by simp) h.awaited.lt)
    wanted := h.wanted.of_block (hb (by simp) h.wanted.lt)
    own := own_fr h.own k2 (fun g hg hm => by
      rcases List.mem_cons.1 hm with h1 | h1
      · exact h.st.hv g hg (by simp [h1])
      · exact (hlf g h1).2 hg)
    net := h.net.fr k2 (far _ (by simp)) (far _ (by simp)) (far _ (by simp))
    log := ⟨lv', k1, fun g hg => by
      rcases k3 g hg with h1 | h1
      · exact g2 g h1
      · exact .inr (by omega)⟩
    fr := h.fr.wide k2 (fun x hx => by
      rcases List.mem_cons.1 hx with h1 | h1
      · exact .inl (by simp [h1])
      · rcases g2 x h1 with h3 | h3
        · exact .inl (by simp [h3])
        · exact .inr h3) }, k2.size, fun g h1 h2 h3 h4 => k2.block g h1 (fun hm => by
      rcases List.mem_cons.1 hm with e1 | e1
      · exact h3 e1
      · rcases g2 g e1 with e2 | e2
        · exact h2 e2
        · omega)⟩

end Go.Proofs.YbulkbtkoGreatFmt

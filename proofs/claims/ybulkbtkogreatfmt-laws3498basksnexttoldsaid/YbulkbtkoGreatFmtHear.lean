import Derived.Test.YbulkbtkoGreatFmtNils
namespace Go.Proofs.YbulkbtkoGreatFmt
open Go.RowKit
set_option linter.unusedVariables false
set_option linter.unusedSimpArgs false

/-- Of the elder blocks only those of S may have turned. -/
structure Fr (w w' : World) (S : List Nat) : Prop where
  os : w'.os = w.os
  tape : w'.tape = w.tape
  output : w'.output = w.output
  size : w.heap.size ≤ w'.heap.size
  block : ∀ k, k < w.heap.size → k ∉ S → w'.heap[k]? = w.heap[k]?
theorem Fr.refl (w : World) (S : List Nat) : Fr w w S := ⟨rfl, rfl, rfl, Nat.le_refl _, fun _ _ _ => rfl⟩
theorem Fr.trans {a b c : World} {S : List Nat} (h : Fr a b S) (k : Fr b c S) : Fr a c S :=
  ⟨k.os.trans h.os, k.tape.trans h.tape, k.output.trans h.output, Nat.le_trans h.size k.size, fun i hi hS => (k.block i (Nat.lt_of_lt_of_le hi h.size) hS).trans (h.block i hi hS)⟩
theorem Fr.mono {a b : World} {S S' : List Nat} (h : Fr a b S) (k : ∀ x ∈ S, x ∈ S') : Fr a b S' := ⟨h.os, h.tape, h.output, h.size, fun i hi hS => h.block i hi fun hm => hS (k _ hm)⟩
theorem Fr.of_below {a b : World} {S : List Nat} (h : Below a.heap.size a b) : Fr a b S := ⟨h.os, h.tape, h.output, h.size, fun i hi _ => h.block i hi⟩
theorem Fr.of_same {a b : World} {S : List Nat} (h : Same a b) : Fr a b S := .of_below (h.below _)
theorem Fr.of_only1 {a b : World} {n : Nat} {S : List Nat} (h : Only1 a b n) (hn : n ∈ S) : Fr a b S :=
  have h0 := h.bel 0 (Nat.zero_le _)
  ⟨h0.os, h0.tape, h0.output, by rw [h.size]; exact Nat.le_refl _, fun i hi hS => h.block i (fun e => hS (e ▸ hn))⟩
theorem Fr.of_map {a b : World} {n : Nat} {S : List Nat} (h : MapOnly a b n) (hn : n ∈ S) : Fr a b S :=
  have h0 := h.below (B := 0) (Nat.zero_le _)
  ⟨h0.os, h0.tape, h0.output, by rw [h.size]; exact Nat.le_refl _, fun i hi hS => h.block (fun e => hS (e ▸ hn))⟩
theorem Fr.set {a b : World} {S : List Nat} (h : Fr a b S) {n : Nat} (hn : n ∈ S) (i : Nat) (v : Value) : Fr a (b.setCell ⟨n, i, none⟩ v) S :=
  ⟨h.os, h.tape, h.output, by simp; exact h.size, fun k hk hS => (Below.heap_setCell _ _ _ _ (fun e => hS (by rw [show k = n from e]; exact hn))).trans (h.block k hk hS)⟩
theorem Fr.set_new {a b : World} {S : List Nat} (h : Fr a b S) {n : Nat} (hn : a.heap.size ≤ n) (i : Nat) (v : Value) : Fr a (b.setCell ⟨n, i, none⟩ v) S :=
  ⟨h.os, h.tape, h.output, by simp; exact h.size, fun k hk hS => (Below.heap_setCell _ _ _ _ (by show k ≠ n; omega)).trans (h.block k hk hS)⟩
theorem Fr.same {a b c : World} {S : List Nat} (h : Fr a b S) (k : Same b c) : Fr a c S := h.trans (.of_same k)
theorem Fr.below {a b : World} {S : List Nat} (h : Fr a b S) {B : Nat} (hB : B ≤ a.heap.size) (hS : ∀ x ∈ S, B ≤ x) : Below B a b :=
  ⟨h.os, h.tape, h.output, h.size, fun k hk => h.block k (by omega) fun hm => by have := hS k hm; omega⟩

theorem iwf {j : Int} (h0 : -9223372036854775808 ≤ j) (h1 : j ≤ 9223372036854775807) : (Lit.int .i64 j).wf = true := by
  have e1 : IntKind.i64.min = -9223372036854775808 := by decide
  have e2 : IntKind.i64.max = 9223372036854775807 := by decide
  simp [Lit.wf, e1, e2]
  omega
theorem zero92 (w : World) : (zeroValue 92).run Ybaz.prog w = .ok (.agg #[.int .i64 0, .int .i64 0, .bool false, .bool false]) w := by kernel_rfl
theorem look_gone {w : World} {m : Nat} (hm : w.heap[m]? = some (.map #[] 0)) (j : Int) (wj : (Lit.int .i64 j).wf = true) :
    (Instr.lookup 56 (.map (some m)) (.int .i64 j) true).run Ybaz.prog w = .ok (.tuple #[.agg #[.int .i64 0, .int .i64 0, .bool false, .bool false], .bool false]) w := by
  have hz := zero92 w
  have hk := Maps.keyOf_int_mk Ybaz.underlying3 wj
  have h1 := key3.check w (#[] : Array MapEntry).isEmpty hk
  have h2 : (Instr.findKey 3 (.int .i64 j) []).run Ybaz.prog w = .ok none w := by
    rcases key3.find w hk [] (by simp) with h | ⟨i, e, _, h, _⟩
    · exact h.1
    · simp at h
  simp [Instr.lookup, run_underlying Ybaz.underlying56, MapKept.run_getObj_map hm, hz, Result.andThen, h2]
  simp at h1
  rw [h1]
  simp [h2, hz, Result.andThen]

@[irreducible] def z45 : Array Value := (List.replicate 256 (.int .i64 0)).toArray
theorem z45_size : z45.size = 256 := by kernel_rfl
theorem alloc45 (w : World) : (Instr.alloc 45 true (.tuple #[])).run Ybaz.prog w = .ok (.pointer (some ⟨w.heap.size, 0, none⟩)) (w.alloc (.cells z45 45)) := by kernel_rfl
theorem wpList_alloc_any {P : Program} {w : World} {ops : Array Oper} {rest : List Oper} {o : Oper} {a : Act} {Q : Exit → Act → World → Prop} (hg : o.guard = Option.none) (t : TypeId) (hop : o.op = Op.alloc t) (v : Value) (w' : World)
    (hrun : (Instr.alloc t true (.tuple #[])).run P w = .ok v w') (hK : wpList P ops Q rest (a.put o.dst v) w') : wpList P ops Q (o :: rest) a w := by
  refine wpList_plain hg fun K' hK' => ?_
  unfold Oper.wp execOp
  simp only [hop, Sem.run_bind, hrun, Result.andThen_ok]
  exact hK' _ _ hK

theorem Net.fr {w w' : World} {ib cb vb N : Nat} {id cw : Nat → Nat} {S : List Nat} (h : Net w ib cb vb N id cw) (k : Fr w w' S) (h1 : ib ∉ S) (h2 : cb ∉ S) (h3 : vb ∉ S) : Net w' ib cb vb N id cw :=
  h.of_blocks (k.block _ h.ids.lt h1) (k.block _ h.cost.lt h2) (k.block _ (World.block_lt_of_cell? _ _ h.var) h3)

/-- What holds once the first k of the fresh are learnt. -/
structure HearAt (w wr : World) (nb ib vb N s : Nat) (cI : Nat → Int) (id cw fs : Nat → Nat) (l : List Nat) (E0 : Int) (k : Nat) (T : Nat → Int) (C : Nat → Nat) (ed : Int) (r : Nat → Value) : Prop where
  spec : Spec cI id s (l ++ (List.range k).map fs) T
  ok : TabOk N s id cw T C
  ed0 : 0 ≤ ed
  ed1 : ed ≤ E0 + (k : Int)
  node : NodeIs wr nb ib vb N s T C ed r
  fr : Fr w wr [nb]

theorem HearAt.step {w wr w' : World} {nb ib vb N s mn : Nat} {cI : Nat → Int} {id cw fs : Nat → Nat} {l : List Nat} {E0 : Int} {k : Nat} {T : Nat → Int} {C : Nat → Nat} {ed : Int} {r : Nat → Value} (h : HearAt w wr nb ib vb N s cI id cw fs l E0 k T C ed r)
    (hid : ∀ i, id i < 18446744073709551616) (hinj : ∀ i j, i < N → j < N → id i = id j → i = j) (hs : s < N) (hk : k < mn) (hfs : ∀ i, i < mn → fs i < N) (hl : ∀ j ∈ l, j < N) (hO : Fr wr w' [nb])
    (hN : NodeIs w' nb ib vb N s (learnT cI id s T (fs k)) (learnC cI id cw s T C (fs k)) (learnE cI id s T ed (fs k)) r) :
    HearAt w w' nb ib vb N s cI id cw fs l E0 (k + 1) (learnT cI id s T (fs k)) (learnC cI id cw s T C (fs k)) (learnE cI id s T ed (fs k)) r where
  spec := by
    rw [List.range_succ, List.map_append, ← List.append_assoc]
    refine h.spec.step hid hinj (fun j hj => ?_) hs (fs k) (hfs k hk)
    rcases List.mem_append.1 hj with hj | hj
    · exact hl j hj
    · simp only [List.mem_map, List.mem_range] at hj
      obtain ⟨i, hi, rfl⟩ := hj
      exact hfs i (by omega)
  ok := h.ok.step (fs k) (hfs k hk)
  ed0 := by have := h.ed0; unfold learnE; split <;> omega
  ed1 := by have := h.ed1; unfold learnE; split <;> omega
  node := hN
  fr := h.fr.trans hO

set_option maxHeartbeats 4000000 in
set_option maxRecDepth 100000 in
theorem hear_any {w : World} {ib cb vb N nb s fb fn fc m0 m1 jb : Nat} {id cw : Nat → Nat} {cI : Nat → Int} {fs : Nat → Nat} {T : Nat → Int} {C : Nat → Nat} {ed : Int} {r : Nat → Value} {l : List Nat} (hNet : Net w ib cb vb N id cw) (hid : ∀ i, id i < 18446744073709551616)
    (hinj : ∀ i j, i < N → j < N → id i = id j → i = j) (hcw : ∀ i, Reads (cw i) (cI i)) (hN : N ≤ 300) (hs : s < N) (hNode : NodeIs w nb ib vb N s T C ed r) (hT : TabOk N s id cw T C) (hSp : Spec cI id s l T) (hl : ∀ j ∈ l, j < N) (hed : 0 ≤ ed ∧ ed ≤ 4000)
    (r515 : r 515 = .map (some m0)) (r518 : r 518 = .pointer (some ⟨jb, 0, none⟩)) (r520 : r 520 = .slice none 0 0) (r777 : r 777 = .map (some m1)) (hm0 : w.heap[m0]? = some (.map #[] 0)) (hm1 : w.heap[m1]? = some (.map #[] 0))
    (hfn : fn ≤ 900) (hfs : ∀ i, i < fn → fs i < N) (fa : Option Addr) (hfa : fn = 0 ∨ fa = some ⟨fb, 0, none⟩) (hmem : ∀ i, i < fn → w.cell? ⟨fb, i, none⟩ = some (.int .i64 ((fs i : Nat) : Int)))
    (hnf : nb ≠ fb) (hni : nb ≠ ib) (hnc : nb ≠ cb) (hnv : nb ≠ vb) (hn0 : nb ≠ m0) (hn1 : nb ≠ m1) (f : Value) (ak : Int) :
    Calls Ybaz.prog 16 #[.pointer (some ⟨nb, 0, none⟩), .slice fa fn fc, .int .i64 ak, f] w fun e w' => e = .returned (.tuple #[]) ∧ ∃ T' C' ed', HearAt w w' nb ib vb N s cI id cw fs l ed fn T' C' ed' r := by
  have HNet := hide hNet
  have Hmem := hide hmem
  have HNode := hide hNode
  have hnlt := hNode.row.lt
  obtain ⟨cs, hcl, hco, hrange⟩ : ∃ cs : List Value, cs.length = 256 ∧ cs.toArray.all (·.oneCell') = true ∧ w.rangeAt nb 3 cs := by
    refine ⟨(List.range 256).map fun p => .int .i64 (T p), by simp, all_oneCell_toArray (fun v hv => ?_), ?_⟩
    · obtain ⟨p, _, rfl⟩ := List.mem_map.1 hv
      rfl
    intro j v hj
    rw [List.getElem?_map] at hj
    by_cases hjl : j < 256
    · rw [List.getElem?_range hjl] at hj
      simp only [Option.map_some, Option.some.injEq] at hj
      rw [hNode.row.cell (by omega), ndF_t hjl, hj]
    · rw [List.getElem?_eq_none (by simp; omega)] at hj
      cases hj
  clear hNet hmem hNode
  go_enter Ybaz.func16, Ybaz.ntmps16
  go_upto_region 2 with (first
    | (guard_target = wpList _ _ _ (⟨_, Op.load 45 _, _, _, _, _⟩ :: _) _ _; go_must (refine wpList_load_mid rfl 45 _ rfl nb 3 rfl _ _ hrange Ybaz.underlying45 rfl (by rw [hcl]; kernel_rfl) ?_; try simp only [Act.put, List.setIfInBounds_toArray, List.set_cons_zero, List.set_cons_succ]))
    | (guard_target = wpList _ _ _ (⟨_, Op.alloc 45, _, _, _, _⟩ :: _) _ _; go_must (refine wpList_alloc_any rfl 45 rfl _ _ (alloc45 _) ?_; try simp only [Act.put, List.setIfInBounds_toArray, List.set_cons_zero, List.set_cons_succ]))
    | (guard_target = wpList _ _ _ (⟨_, Op.store 45 _ _, _, _, _, _⟩ :: _) _ _; go_must (refine wpList_store_mid rfl 45 _ _ rfl w.heap.size 0 cs.toArray rfl rfl (there_new w z45 45 _ _ rfl (by rw [z45_size]; simp [hcl])) (by simp only [List.size_toArray, hcl]; kernel_rfl) hco ?_; try simp only [Act.put, List.setIfInBounds_toArray, List.set_cons_zero, List.set_cons_succ]))
    | go_in)
  obtain ⟨w0, hw0⟩ : ∃ w0, w0 = (w.alloc (.cells z45 45)).setCells w.heap.size 0 cs := ⟨_, rfl⟩
  have hB0 : Below w.heap.size w w0 := by
    rw [hw0]
    exact below_setCells _ (Nat.le_refl _) _ _ ((Below.refl _ w).alloc (Nat.le_refl _) _)
  rw [← hw0]
  clear hw0 hcl hco hrange
  have hst : Hid (HearAt w w0 nb ib vb N s cI id cw fs l ed 0 T C ed r) := ⟨by simpa using hSp, hT, hed.1, by simp, ⟨(unhide HNode).row.of_block (hB0.block _ hnlt), (unhide HNode).r0, (unhide HNode).r1, (unhide HNode).r2⟩, .of_below hB0⟩
  have Hm0 := hide hm0
  have Hm1 := hide hm1
  have HT := hide hT
  have hm0l : m0 < w.heap.size := by
    rcases Nat.lt_or_ge m0 w.heap.size with h | h
    · exact h
    · simp [Array.getElem?_eq_none h] at hm0
  have hm1l : m1 < w.heap.size := by
    rcases Nat.lt_or_ge m1 w.heap.size with h | h
    · exact h
    · simp [Array.getElem?_eq_none h] at hm1
  have Hr515 := hide r515
  have Hr518 := hide r518
  have Hr520 := hide r520
  have Hr777 := hide r777
  have Hfa := hide hfa
  have HSp := hide hSp
  clear hm0 hm1 hT hB0 r515 r518 r520 r777 hfa hSp
  go_wp2_with fail
  go_loopw [20, 9] (fun iv bv wr => ∃ k : Nat, k ≤ fn ∧ iv = .int .i64 (k : Int) ∧ ∃ ch : Bool, bv = .bool ch ∧ ∃ T C ed', Hid (HearAt w wr nb ib vb N s cI id cw fs l ed k T C ed' r)) (fun iv _ _ => fn - (intOf iv).toNat)
  case atStart => exact ⟨0, by omega, rfl, false, rfl, _, _, _, hst⟩
  case round =>
    obtain ⟨k, hk, rfl, ch, rfl, T1, C1, ed1, hL⟩ := hrel
    have g515 : wr.cell? ⟨nb, 515, none⟩ = some (.map (some m0)) := ((unhide hL).node.row.cell (by omega)).trans (by simp [ndF, unhide Hr515])
    have g518 : wr.cell? ⟨nb, 518, none⟩ = some (.pointer (some ⟨jb, 0, none⟩)) := ((unhide hL).node.row.cell (by omega)).trans (by simp [ndF, unhide Hr518])
    have g520 : wr.cell? ⟨nb, 520, none⟩ = some (.slice none 0 0) := ((unhide hL).node.row.cell (by omega)).trans (by simp [ndF, unhide Hr520])
    have g777 : wr.cell? ⟨nb, 777, none⟩ = some (.map (some m1)) := ((unhide hL).node.row.cell (by omega)).trans (by simp [ndF, unhide Hr777])
    by_cases hkl : k < fn
    · obtain rfl : fa = some ⟨fb, 0, none⟩ := by
        rcases unhide Hfa with h | h
        · omega
        · exact h
      have mm := unhide Hmem k hkl
      have hfb : fb < w.heap.size := World.block_lt_of_cell? _ _ mm
      have m2 : wr.cell? ⟨fb, k, none⟩ = some (.int .i64 ((fs k : Nat) : Int)) := (World.cell?_of_block (a := ⟨fb, k, none⟩) ((unhide hL).fr.block fb hfb (by simp; omega))).trans mm
      have k0 : (0 : Int) ≤ (k : Int) := by omega
      have k1 : (k : Int) < (fn : Int) := by omega
      have hfk := hfs k hkl
      have hlk := look_gone (w := wr) (m := m1) (((unhide hL).fr.block m1 hm1l (by simp; omega)).trans (unhide Hm1)) ((fs k : Nat) : Int) (iwf (by omega) (by omega))
      clear mm
      go_upto_region 7 with fail
      obtain ⟨wX, hwX⟩ : ∃ wX, wX = wr.alloc (.cells #[.int .i64 0, .int .i64 0, .bool false, .bool false] 92) := ⟨_, rfl⟩
      have hBX : Below wr.heap.size wr wX := by rw [hwX]; exact (Below.refl _ wr).alloc (Nat.le_refl _) _
      rw [← hwX]
      clear hwX hlk
      have h520 := cell_stays hBX g520
      have hFX : Hid (Fr w wX [nb]) := (unhide hL).fr.trans (.of_below hBX)
      have hNX : Hid (Net wX ib cb vb N id cw) := (unhide HNet).fr (unhide hFX) (by simp; omega) (by simp; omega) (by simp; omega)
      have hnX : Hid (NodeIs wX nb ib vb N s T1 C1 ed1 r) := ⟨(unhide hL).node.row.of_block (hBX.block _ (unhide hL).node.row.lt), (unhide hL).node.r0, (unhide hL).node.r1, (unhide hL).node.r2⟩
      have HBX := hide hBX
      clear hBX g515 g518 g520 g777 m2
      go_wp2_with (first
        | (go_at_call 23; refine (repairFor_any h520 _).mono ?_; rintro e w' ⟨rfl, rfl⟩)
        | (go_at_call 20; refine (learn_any (cI := cI) (unhide hNX) hid hinj hcw hN (unhide hnX) hs (unhide hL).ok ⟨(unhide hL).ed0, by have := (unhide hL).ed1; omega⟩ (fs k) hfk).mono ?_; rintro e w1 ⟨rfl, hO, hNo⟩
           have hnx := hide ((unhide hL).step hid hinj hs hkl hfs hl ((Fr.of_below (unhide HBX)).trans (.of_only1 hO (by simp))) hNo)
           clear hO hNo
           generalize takes cI id s T1 (fs k) = tk
           cases tk))
      · exact ⟨⟨k + 1, by omega, rfl, ch, rfl, _, _, _, hnx⟩, by simp [intOf]; omega⟩
      · exact ⟨⟨k + 1, by omega, rfl, true, rfl, _, _, _, hnx⟩, by simp [intOf]; omega⟩
    · obtain rfl : k = fn := by omega
      have hLL := unhide hL
      cases ch
      · go_wp2_with fail
        exact bodyPost_ret (results_none (by rfl) _ _ _) rfl ⟨rfl, _, _, _, hLL⟩
      · have q0 := ((unhide hL).fr.block m0 hm0l (by simp; omega)).trans (unhide Hm0)
        go_wp2_with (go_at_call 25; refine (reroute_any g515 q0 _).mono ?_; rintro e w1 ⟨rfl, hB1, _⟩)
        go_end0
        exact ⟨rfl, _, _, _, hLL.spec, hLL.ok, hLL.ed0, hLL.ed1, ⟨hLL.node.row.of_block (hB1.block _ hLL.node.row.lt), hLL.node.r0, hLL.node.r1, hLL.node.r2⟩, hLL.fr.trans (.of_below hB1)⟩

end Go.Proofs.YbulkbtkoGreatFmt

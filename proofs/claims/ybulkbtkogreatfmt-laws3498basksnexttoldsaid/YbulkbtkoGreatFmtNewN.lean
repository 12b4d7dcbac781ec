import Derived.Test.YbulkbtkoGreatFmtArr
namespace Go.Proofs.YbulkbtkoGreatFmt
open Go.RowKit
set_option linter.unusedVariables false
set_option linter.unusedSimpArgs false

theorem wpList_build_any {P : Program} {w : World} {ops : Array Oper} {rest : List Oper} {o : Oper} {a : Act} {Q : Exit → Act → World → Prop} (hg : o.guard = Option.none) (t : TypeId) (fs : Array (Nat × Operand)) (hop : o.op = Op.build t fs)
    (vs : Array (Nat × Value)) (hev : fs.map (fun p => (p.1, a.eval p.2)) = vs) (cs : Array Value) (hrun : (Instr.build t vs).run P w = .ok (.agg cs) w)
    (hK : wpList P ops Q rest (a.put o.dst (.agg cs)) w) : wpList P ops Q (o :: rest) a w := by
  refine wpList_plain hg fun K' hK' => ?_
  unfold Oper.wp execOp
  simp only [hop, hev, Sem.run_bind, hrun, Result.andThen_ok]
  exact hK' _ _ hK

/-- The table as the two loops of NewNode lay it: rows below i done, row i up to d blank. -/
def layT (id : Nat → Nat) (s i d : Nat) : Nat → Int := fun p => if p < 16 * i then tab0 id s p else if p < 16 * i + d then -1 else 0

theorem layT_row {id : Nat → Nat} {s i : Nat} : ∀ p, putI (layT id s i 16) (16 * i + dig (id s) i) (s : Int) p = layT id s (i + 1) 0 p := by
  intro p
  have hd := dig_lt (id s) i
  simp only [putI, layT]
  by_cases c0 : p = 16 * i + dig (id s) i
  · rw [if_pos c0, if_pos (by omega)]
    subst c0
    unfold tab0
    rw [show (16 * i + dig (id s) i) % 16 = dig (id s) i by omega, show (16 * i + dig (id s) i) / 16 = i by omega, if_pos rfl]
  · rw [if_neg c0]
    by_cases c1 : p < 16 * i
    · rw [if_pos c1, if_pos (by omega)]
    · rw [if_neg c1]
      by_cases c2 : p < 16 * i + 16
      · rw [if_pos c2, if_pos (by omega)]
        unfold tab0
        rw [if_neg]
        have e1 : p / 16 = i := by omega
        rw [e1]
        omega
      · rw [if_neg c2, if_neg (by omega), if_neg (by omega)]
theorem layT_cell {id : Nat → Nat} {s i d : Nat} (hd : d < 16) : ∀ p, putI (layT id s i d) (16 * i + d) (-1) p = layT id s i (d + 1) p := by
  intro p
  simp only [putI, layT]
  by_cases c0 : p = 16 * i + d
  · rw [if_pos c0, if_neg (by omega), if_pos (by omega)]
  · rw [if_neg c0]
    by_cases c1 : p < 16 * i
    · rw [if_pos c1, if_pos c1]
    · rw [if_neg c1, if_neg c1]
      by_cases c2 : p < 16 * i + d
      · rw [if_pos c2, if_pos (by omega)]
      · rw [if_neg c2, if_neg (by omega)]
theorem ndF_putT {T : Nat → Int} {C : Nat → Nat} {ed : Int} {r : Nat → Value} {p : Nat} {v : Int} (hp : p < 256) (k : Nat) : (if k = 3 + p then .int .i64 v else ndF T C ed r k) = ndF (putI T p v) C ed r k := by
  by_cases h3 : k = 3 + p
  · subst h3
    rw [if_pos rfl, ndF_t hp]
    simp [putI]
  · rw [if_neg h3]
    unfold ndF
    by_cases c1 : 3 ≤ k ∧ k < 259
    · rw [if_pos c1, if_pos c1]
      simp only [putI]
      rw [if_neg (by omega)]
    · rw [if_neg c1, if_neg c1]
theorem ndF_congr {T T' : Nat → Int} {C : Nat → Nat} {ed : Int} {r : Nat → Value} (h : ∀ p, T p = T' p) (k : Nat) : ndF T C ed r k = ndF T' C ed r k := by
  unfold ndF
  rw [h]

structure Lay (w wr : World) (nb : Nat) (T : Nat → Int) (r : Nat → Value) : Prop where
  row : wr.rowIs nb 63 790 (ndF T (fun _ => 0) 0 r)
  only : Only1 w wr nb

theorem Lay.put {w wr : World} {nb : Nat} {T T' : Nat → Int} {r : Nat → Value} (h : Lay w wr nb T r) {p o : Nat} (hp : p < 256) (ho : o = 3 + p) {v : Int} (e : ∀ q, putI T p v q = T' q) : Lay w (wr.setCell ⟨nb, o, none⟩ (.int .i64 v)) nb T' r := by
  subst ho
  exact ⟨(h.row.set (3 + p) _).congr fun k hk => (ndF_putT hp k).trans (ndF_congr e k), h.only.set _ _⟩
theorem Lay.same {w wr w' : World} {nb : Nat} {T : Nat → Int} {r : Nat → Value} (h : Lay w wr nb T r) (k : Same wr w') : Lay w w' nb T r := ⟨h.row.of_block (k.block _), h.only.same k⟩
theorem Lay.cell {w wr : World} {nb : Nat} {T : Nat → Int} {r : Nat → Value} (h : Lay w wr nb T r) {p o : Nat} (hp : p < 256) (ho : o = 3 + p) : wr.cell? ⟨nb, o, none⟩ = some (.int .i64 (T p)) := by
  subst ho
  rw [h.row.cell (by omega), ndF_t hp]

theorem heap_new (w : World) (o : Obj) : (w.alloc o).heap[w.heap.size]? = some o := by
  show (w.heap.push o)[w.heap.size]? = _
  simp
theorem heap_new' {w : World} {o : Obj} {k : Nat} (hk : k = w.heap.size) : (w.alloc o).heap[k]? = some o := by subst hk; exact heap_new w o

/-- The rest of a new node. -/
structure RestNew (r : Nat → Value) (m0 m1 : Nat) : Prop where
  r515 : r 515 = .map (some m0)
  r516 : r 516 = .slice none 0 0
  r518 : r 518 = .pointer none
  r519 : r 519 = .int .i64 0
  r520 : r 520 = .slice none 0 0
  r777 : r 777 = .map (some m1)

structure NewN (w w' : World) (nb ib vb N s : Nat) (cI : Nat → Int) (id cw : Nat → Nat) (l : List Nat) (T : Nat → Int) (C : Nat → Nat) (ed : Int) (r : Nat → Value) : Prop where
  at0 : nb = w.heap.size + 6
  size : w'.heap.size = w.heap.size + 7
  bel : Below w.heap.size w w'
  node : NodeIs w' nb ib vb N s T C ed r
  rest : RestNew r w.heap.size (w.heap.size + 1)
  m0 : w'.heap[w.heap.size]? = some (.map #[] 0)
  m1 : w'.heap[w.heap.size + 1]? = some (.map #[] 0)
  spec : Spec cI id s l T
  ok : TabOk N s id cw T C
  ed0 : 0 ≤ ed
  ed1 : ed ≤ l.length


/-- What holds once the first k members are learnt. -/
structure LearnAt (wA wr : World) (nb ib vb N s : Nat) (cI : Nat → Int) (id cw ms : Nat → Nat) (k : Nat) (T : Nat → Int) (C : Nat → Nat) (ed : Int) (r : Nat → Value) : Prop where
  spec : Spec cI id s ((List.range k).map ms) T
  ok : TabOk N s id cw T C
  ed0 : 0 ≤ ed
  ed1 : ed ≤ (k : Int)
  node : NodeIs wr nb ib vb N s T C ed r
  only : Only1 wA wr nb

theorem LearnAt.step {wA wr w' : World} {nb ib vb N s mn : Nat} {cI : Nat → Int} {id cw ms : Nat → Nat} {k : Nat} {T : Nat → Int} {C : Nat → Nat} {ed : Int} {r : Nat → Value} (h : LearnAt wA wr nb ib vb N s cI id cw ms k T C ed r)
    (hid : ∀ i, id i < 18446744073709551616) (hinj : ∀ i j, i < N → j < N → id i = id j → i = j) (hs : s < N) (hk : k < mn) (hms : ∀ i, i < mn → ms i < N) (hO : Only1 wr w' nb)
    (hN : NodeIs w' nb ib vb N s (learnT cI id s T (ms k)) (learnC cI id cw s T C (ms k)) (learnE cI id s T ed (ms k)) r) :
    LearnAt wA w' nb ib vb N s cI id cw ms (k + 1) (learnT cI id s T (ms k)) (learnC cI id cw s T C (ms k)) (learnE cI id s T ed (ms k)) r where
  spec := by
    rw [List.range_succ, List.map_append]
    refine h.spec.step hid hinj (fun j hj => ?_) hs (ms k) (hms k hk)
    simp only [List.mem_map, List.mem_range] at hj
    obtain ⟨i, hi, rfl⟩ := hj
    exact hms i (by omega)
  ok := h.ok.step (ms k) (hms k hk)
  ed0 := by have := h.ed0; unfold learnE; split <;> omega
  ed1 := by have := h.ed1; unfold learnE; split <;> omega
  node := hN
  only := h.only.trans hO

set_option maxHeartbeats 4000000 in
set_option maxRecDepth 100000 in
theorem newnode_any {w : World} {ib cb vb N s mb mn mc : Nat} {id cw : Nat → Nat} {cI : Nat → Int} {ms : Nat → Nat} (hNet : Net w ib cb vb N id cw) (hid : ∀ i, id i < 18446744073709551616)
    (hinj : ∀ i j, i < N → j < N → id i = id j → i = j) (hcw : ∀ i, Reads (cw i) (cI i)) (hN : N ≤ 300) (hs : s < N) (hmn : mn ≤ 300) (hms : ∀ i, i < mn → ms i < N)
    (hmem : ∀ i, i < mn → w.cell? ⟨mb, i, none⟩ = some (.int .i64 ((ms i : Nat) : Int))) :
    Calls Ybaz.prog 12 #[.int .i64 (s : Int), .slice (some ⟨ib, 0, none⟩) N N, .func (.func 11) #[] #[.pointer (some ⟨vb, 0, none⟩)], .slice (some ⟨mb, 0, none⟩) mn mc] w fun e w' => ∃ nb T C ed r, e = .returned (.pointer (some ⟨nb, 0, none⟩)) ∧ NewN w w' nb ib vb N s cI id cw ((List.range mn).map ms) T C ed r := by
  have HNet := hide hNet
  have Hmem := hide hmem
  have d1 := hNet.ids.cell hs
  have hib := hNet.ids.lt
  have i1 : (s : Int) < (N : Int) := by omega
  have i0 : (0 : Int) ≤ (s : Int) := by omega
  have hmm := @run_makeMap Ybaz.prog
  clear hNet hmem
  go_enter Ybaz.func12, Ybaz.ntmps12
  go_upto_region 2 with (first
    | (guard_target = wpList _ _ _ (⟨_, Op.build 63 _, _, _, _, _⟩ :: _) _ _; go_must (refine wpList_build_any rfl 63 _ rfl (#[(0, .int .i64 (s : Int)), (1, .slice (some ⟨ib, 0, none⟩) N N), (2, .func (.func 11) #[] #[.pointer (some ⟨vb, 0, none⟩)]), (23, .int .i64 (s : Int)), (5, .map (some w.heap.size)), (12, .map (some (w.heap.size + 1))), (17, .map (some (w.heap.size + 1 + 1))), (18, .map (some (w.heap.size + 1 + 1 + 1))), (20, .map (some (w.heap.size + 1 + 1 + 1 + 1))), (21, .map (some (w.heap.size + 1 + 1 + 1 + 1 + 1)))]) (by simp only [List.map_toArray, List.map_cons, List.map_nil]; rfl) _ (build63 (s : Int) ⟨ib, 0, none⟩ N vb w.heap.size (w.heap.size + 1) (w.heap.size + 1 + 1) (w.heap.size + 1 + 1 + 1) (w.heap.size + 1 + 1 + 1 + 1) (w.heap.size + 1 + 1 + 1 + 1 + 1) _) ?_))
    | go_in)
  obtain ⟨wA, hA⟩ : ∃ wA, wA = ((((((w.alloc (.map #[] 0)).alloc (.map #[] 0)).alloc (.map #[] 0)).alloc (.map #[] 0)).alloc (.map #[] 0)).alloc (.map #[] 0)).alloc (.cells (ndA (s : Int) ⟨ib, 0, none⟩ N vb w.heap.size (w.heap.size + 1) (w.heap.size + 1 + 1) (w.heap.size + 1 + 1 + 1) (w.heap.size + 1 + 1 + 1 + 1) (w.heap.size + 1 + 1 + 1 + 1 + 1)) 63) := ⟨_, rfl⟩
  rw [← hA]
  have s6 : ((((((w.alloc (.map #[] 0)).alloc (.map #[] 0)).alloc (.map #[] 0)).alloc (.map #[] 0)).alloc (.map #[] 0)).alloc (.map #[] 0)).heap.size = w.heap.size + 1 + 1 + 1 + 1 + 1 + 1 := by simp
  have hrow : wA.rowIs (w.heap.size + 1 + 1 + 1 + 1 + 1 + 1) 63 790 (ndF (fun _ => 0) (fun _ => 0) 0 (fun k => (ndA (s : Int) ⟨ib, 0, none⟩ N vb w.heap.size (w.heap.size + 1) (w.heap.size + 1 + 1) (w.heap.size + 1 + 1 + 1) (w.heap.size + 1 + 1 + 1 + 1) (w.heap.size + 1 + 1 + 1 + 1 + 1))[k]?.getD undef)) := by
    rw [hA, ← s6]
    exact nd_row _ _ _ _ _ _ _ _ _ _ _
  have sz : wA.heap.size = w.heap.size + 7 := by rw [hA]; simp
  have hbA : Below w.heap.size w wA := by
    rw [hA]
    exact (((((((Below.refl _ w).alloc (Nat.le_refl _) _).alloc (by simp) _).alloc (by simp <;> omega) _).alloc (by simp <;> omega) _).alloc (by simp <;> omega) _).alloc (by simp <;> omega) _).alloc (by simp <;> omega) _
  have hm0 : wA.heap[w.heap.size]? = some (.map #[] 0) := by
    rw [hA, Below.heap_alloc _ _ _ (by simp <;> omega), Below.heap_alloc _ _ _ (by simp <;> omega), Below.heap_alloc _ _ _ (by simp <;> omega), Below.heap_alloc _ _ _ (by simp <;> omega), Below.heap_alloc _ _ _ (by simp <;> omega), Below.heap_alloc _ _ _ (by simp)]
    exact heap_new _ _
  have hm1 : wA.heap[w.heap.size + 1]? = some (.map #[] 0) := by
    rw [hA, Below.heap_alloc _ _ _ (by simp <;> omega), Below.heap_alloc _ _ _ (by simp <;> omega), Below.heap_alloc _ _ _ (by simp <;> omega), Below.heap_alloc _ _ _ (by simp <;> omega), Below.heap_alloc _ _ _ (by simp)]
    exact heap_new' (by simp)
  obtain ⟨r, hr⟩ : ∃ r : Nat → Value, r = (fun k => (ndA (s : Int) ⟨ib, 0, none⟩ N vb w.heap.size (w.heap.size + 1) (w.heap.size + 1 + 1) (w.heap.size + 1 + 1 + 1) (w.heap.size + 1 + 1 + 1 + 1) (w.heap.size + 1 + 1 + 1 + 1 + 1))[k]?.getD undef) := ⟨_, rfl⟩
  have hrest : RestNew r w.heap.size (w.heap.size + 1) := by
    rw [hr]
    exact ⟨by simp [nd515], by simp [nd516], by simp [nd518], by simp [nd519], by simp [nd520], by simp [nd777]⟩
  have q0 : r 0 = .int .i64 (s : Int) := by rw [hr]; simp [nd0]
  have q1 : r 1 = .slice (some ⟨ib, 0, none⟩) N N := by rw [hr]; simp [nd1]
  have q2 : r 2 = .func (.func 11) #[] #[.pointer (some ⟨vb, 0, none⟩)] := by rw [hr]; simp [nd2]
  rw [← hr] at hrow
  clear hA s6 hr hmm
  have e1 := cell_stays hbA d1
  have hNA := hide ((unhide HNet).of_blocks (hbA.block _ (unhide HNet).ids.lt) (hbA.block _ (unhide HNet).cost.lt) (hbA.block _ (World.block_lt_of_cell? _ _ (unhide HNet).var)))
  have hLay : Hid (Lay wA wA (w.heap.size + 1 + 1 + 1 + 1 + 1 + 1) (layT id s 0 0) r) := ⟨hrow.congr fun k hk => ndF_congr (fun p => by simp [layT]) k, Only1.refl _ _⟩
  have Hsz := hide sz
  have HbA := hide hbA
  have Hm0 := hide hm0
  have Hm1 := hide hm1
  have Hq0 := hide q0
  have Hq1 := hide q1
  have Hq2 := hide q2
  clear sz hbA hm0 hm1 q0 q1 q2 hrow d1
  obtain ⟨nb, hnb⟩ : ∃ nb, w.heap.size + 1 + 1 + 1 + 1 + 1 + 1 = nb := ⟨_, rfl⟩
  rw [hnb] at hLay ⊢
  have Hnb := hide hnb
  clear hnb
  go_wp2_with fail
  go_loopw [31] (fun iv wr => ∃ i : Nat, i ≤ 16 ∧ iv = .int .i64 (i : Int) ∧ Hid (Lay wA wr nb (layT id s i 0) r)) (fun iv _ => 16 - (intOf iv).toNat)
  case atStart => exact ⟨0, by omega, rfl, hLay⟩
  case round =>
    obtain ⟨i, hi, rfl, hW⟩ := hrel
    by_cases hlt : i < 16
    · have v0 : (0 : Int) ≤ (i : Int) := by omega
      have v1 : (i : Int) < 16 := by omega
      rename World => wO
      go_wp2_with fail
      go_loopw [34] (fun dv wr => ∃ d : Nat, d ≤ 16 ∧ dv = .int .i64 (d : Int) ∧ Hid (Lay wA wr nb (layT id s i d) r)) (fun dv _ => 16 - (intOf dv).toNat)
      case atStart => exact ⟨0, by omega, rfl, hW⟩
      case round =>
        obtain ⟨d, hd, rfl, hV⟩ := hrel
        by_cases hdl : d < 16
        · have t8 := (unhide hV).cell (p := 16 * i + d) (o := 3 + i * 16 + d) (by omega) (by omega)
          have z8 := (unhide hV).row.frozen (3 + i * 16 + d)
          have v2 : (0 : Int) ≤ (d : Int) := by omega
          have v3 : (d : Int) < 16 := by omega
          go_wp2_with fail
          exact ⟨⟨d + 1, by omega, rfl, (unhide hV).put (p := 16 * i + d) (by omega) (by omega) (layT_cell hdl)⟩, by simp [intOf]; omega⟩
        · obtain rfl : d = 16 := by omega
          have hdg := dig_lt (id s) i
          have t8 := (unhide hV).cell (p := 16 * i + dig (id s) i) (o := 3 + i * 16 + dig (id s) i) (by omega) (by omega)
          have z8 := (unhide hV).row.frozen (3 + i * 16 + dig (id s) i)
          have v2 : (0 : Int) ≤ ((dig (id s) i : Nat) : Int) := by omega
          have v3 : ((dig (id s) i : Nat) : Int) < 16 := by omega
          rename World => wV
          go_wp2_with fail
          go_region_held3 (fun w' => w'.heap.size = wV.heap.size) ((first | rfl | simp)) ((go_at_call 19; refine (digit_any (id s) i _ (hid s) hlt).mono ?_; rintro e w1 ⟨rfl, rfl⟩))
          all_goals (
            go_wp2_with fail
            exact ⟨⟨i + 1, by omega, rfl, ((unhide hV).same ((Same.refl _).drew)).put (p := 16 * i + dig (id s) i) (by omega) (by omega) layT_row⟩, by simp [intOf]; omega⟩)
    · obtain rfl : i = 16 := by omega
      rename World => wO
      have hno : NodeIs wO nb ib vb N s (tab0 id s) (fun _ => 0) 0 r := ⟨(unhide hW).row.congr fun k hk => (by
        unfold ndF
        by_cases c1 : 3 ≤ k ∧ k < 259
        · rw [if_pos c1, if_pos c1]
          simp only [layT]
          rw [if_pos (by omega)]
        · rw [if_neg c1, if_neg c1]), unhide Hq0, unhide Hq1, unhide Hq2⟩
      have hst : Hid (LearnAt wA wO nb ib vb N s cI id cw ms 0 (tab0 id s) (fun _ => 0) 0 r) := ⟨Spec.start, TabOk.start hid hinj hs _, Int.le_refl _, by simp, hno, (unhide hW).only⟩
      clear hno
      go_wp2_with fail
      go_loopw [58] (fun iv wr => ∃ k : Nat, k ≤ mn ∧ iv = .int .i64 (k : Int) ∧ ∃ T C ed, Hid (LearnAt wA wr nb ib vb N s cI id cw ms k T C ed r)) (fun iv _ => mn - (intOf iv).toNat)
      case atStart => exact ⟨0, by omega, rfl, _, _, _, hst⟩
      case round =>
        obtain ⟨k, hk, rfl, T, C, ed, hL⟩ := hrel
        have hnb : nb = w.heap.size + 6 := by have := unhide Hnb; omega
        by_cases hkl : k < mn
        · have m1 := unhide Hmem k hkl
          have hmb : mb < w.heap.size := World.block_lt_of_cell? _ _ m1
          have hmA := cell_stays (unhide HbA) m1
          have m2 : wr.cell? ⟨mb, k, none⟩ = some (.int .i64 ((ms k : Nat) : Int)) := (World.cell?_of_block (a := ⟨mb, k, none⟩) ((unhide hL).only.block mb (by omega))).trans hmA
          have k0 : (0 : Int) ≤ (k : Int) := by omega
          have k1 : (k : Int) < (mn : Int) := by omega
          have hNr : Hid (Net wr ib cb vb N id cw) := (unhide hNA).of_blocks ((unhide hL).only.block _ (by omega)) ((unhide hL).only.block _ (by have := (unhide HNet).cost.lt; omega)) ((unhide hL).only.block _ (by have := World.block_lt_of_cell? _ _ (unhide HNet).var; have : vb < w.heap.size := this; omega))
          have HnbE := hide hnb
          clear hnb m1 hmA
          go_wp2_with fail
          refine (learn_any (cI := cI) (unhide hNr) hid hinj hcw hN (unhide hL).node hs (unhide hL).ok ⟨(unhide hL).ed0, by have := (unhide hL).ed1; omega⟩ (ms k) (hms k hkl)).mono ?_
          rintro e w1 ⟨rfl, hO, hNo⟩
          have hnx := hide ((unhide hL).step hid hinj hs hkl hms hO hNo)
          clear hO hNo
          go_wp2_with fail
          refine ⟨⟨_, .int .i64 ((k + 1 : Nat) : Int), _, _, _, _, _, _, _, ⟨k + 1, by omega, rfl, _, _, _, hnx⟩, rfl⟩, by simp [intOf]; omega⟩
        · obtain rfl : k = mn := by omega
          have hLL := unhide hL
          go_wp2_with fail
          go_ret
          refine ⟨nb, T, C, ed, r, rfl, hnb, ?_, ?_, hLL.node, hrest, ?_, ?_, hLL.spec, hLL.ok, hLL.ed0, ?_⟩
          · rw [hLL.only.size, unhide Hsz]
          · exact (unhide HbA).trans (hLL.only.bel w.heap.size (by omega))
          · rw [hLL.only.block _ (by omega)]; exact unhide Hm0
          · rw [hLL.only.block _ (by omega)]; exact unhide Hm1
          · simp; exact hLL.ed1

end Go.Proofs.YbulkbtkoGreatFmt

import Derived.Test.YbulkbtikLawB
namespace Go.Proofs.Ybulkbtik
open Go.Conc Go.RowKit Go.MuLone
set_option linter.unusedVariables false
set_option linter.unusedSimpArgs false

theorem wpList_build1 {P : Program} {w : World} {ops : Array Oper} {rest : List Oper} {o : Oper} {a : Act} {Q : Exit → Act → World → Prop} (hg : o.guard = Option.none) (t : TypeId) (i : Nat) (x : Operand) (hop : o.op = Op.build t #[(i, x)])
    (vx : Value) (hx : a.eval x = vx) (cs : Array Value) (hrun : (Instr.build t #[(i, vx)]).run P w = .ok (.agg cs) w)
    (hK : wpList P ops Q rest (a.put o.dst (.agg cs)) w) : wpList P ops Q (o :: rest) a w := by
  refine wpList_plain hg fun K' hK' => ?_
  unfold Oper.wp execOp
  simp only [hop, List.map_toArray, List.map_cons, List.map_nil, hx, Sem.run_bind, hrun, Result.andThen_ok]
  exact hK' _ _ hK
theorem wpList_build2 {P : Program} {w : World} {ops : Array Oper} {rest : List Oper} {o : Oper} {a : Act} {Q : Exit → Act → World → Prop} (hg : o.guard = Option.none) (t : TypeId) (i j : Nat) (x y : Operand) (hop : o.op = Op.build t #[(i, x), (j, y)])
    (vx vy : Value) (hx : a.eval x = vx) (hy : a.eval y = vy) (cs : Array Value) (hrun : (Instr.build t #[(i, vx), (j, vy)]).run P w = .ok (.agg cs) w)
    (hK : wpList P ops Q rest (a.put o.dst (.agg cs)) w) : wpList P ops Q (o :: rest) a w := by
  refine wpList_plain hg fun K' hK' => ?_
  unfold Oper.wp execOp
  simp only [hop, List.map_toArray, List.map_cons, List.map_nil, hx, hy, Sem.run_bind, hrun, Result.andThen_ok]
  exact hK' _ _ hK
theorem wpList_build4 {P : Program} {w : World} {ops : Array Oper} {rest : List Oper} {o : Oper} {a : Act} {Q : Exit → Act → World → Prop} (hg : o.guard = Option.none) (t : TypeId) (i j k l : Nat) (x y z u : Operand) (hop : o.op = Op.build t #[(i, x), (j, y), (k, z), (l, u)])
    (vx vy vz vu : Value) (hx : a.eval x = vx) (hy : a.eval y = vy) (hz : a.eval z = vz) (hu : a.eval u = vu) (cs : Array Value) (hrun : (Instr.build t #[(i, vx), (j, vy), (k, vz), (l, vu)]).run P w = .ok (.agg cs) w)
    (hK : wpList P ops Q rest (a.put o.dst (.agg cs)) w) : wpList P ops Q (o :: rest) a w := by
  refine wpList_plain hg fun K' hK' => ?_
  unfold Oper.wp execOp
  simp only [hop, List.map_toArray, List.map_cons, List.map_nil, hx, hy, hz, hu, Sem.run_bind, hrun, Result.andThen_ok]
  exact hK' _ _ hK
theorem yields_build1 {P : Program} {ops : Array Oper} {S : World → Prop} {o : Oper} {a : Act} (hw : Region.wanted o (yielded ops a.tmps) = true) (t : TypeId) (i1 : Nat) (x1 : Operand)
    (hop : o.op = Op.build t #[(i1, x1)]) (v1 : Value) (h1 : a.eval x1 = v1)
    (cs : Array Value) (hrun : ∀ w, (Instr.build t #[(i1, v1)]).run P w = .ok (.agg cs) w) : YieldsIf P ops S o (.agg cs) a :=
  .inl ⟨hw, fun w _ => by
    unfold execOp
    simp only [hop, List.map_toArray, List.map_cons, List.map_nil, h1, Sem.run_bind, hrun, Result.andThen_ok]
    rfl⟩
theorem row_put (w : World) (c : Array Value) (t : TypeId) (n i : Nat) (v : Value) (h : c.size = n) : (w.alloc (.cells (c.setIfInBounds i v) t)).rowIs w.heap.size t n (putF (fun k => c[k]?.getD undef) i v) := by
  refine (row_new w (c.setIfInBounds i v) t n (by simp [h])).congr fun k hk => ?_
  simp only [putF, Array.getElem?_setIfInBounds]
  by_cases c1 : k = i
  · subst c1; simp [h, hk]
  · rw [if_neg c1, if_neg (by omega)]

theorem run14' (ve vw vg : Nat) (he hw : Bool) : (runArr ve vw vg he hw)[14]? = some (.slice none 0 0) := by kernel_rfl

theorem wk3' (rb cb : Nat) : (wkArr rb cb)[3]? = some (.bool false) := by kernel_rfl
noncomputable def wkB (rb L : Nat) (woken : Bool) : Nat → Value := putF (putF (wkF rb L) 3 (.bool woken)) 4 (.int .u32 (bit woken))
theorem wk_none {w : World} {rb L U : Nat} {x : Int} {woken : Bool} (row : w.rowIs (L + 1) 57 279 (wkB rb L woken)) (ch : w.heap[L]? = some (.chan 1 #[] false 0 0 false)) (hU : L + 1 < U) : Wk w rb L U false x woken true (wkB rb L woken) where
  lt := hU
  row := row
  f0 := by simp [wkB, putF, wk0]
  f3 := by simp [wkB, putF]
  f4 := by simp [wkB, putF]
  f5 := by simp [wkB, putF, wk5]
  f134 := by simp [wkB, putF, wk134]
  f138 := by simp [wkB, putF, wk138]
  ch := fun _ => ch
  q := .inl ⟨rfl, by simp [wkB, putF, wk135]⟩
theorem wk_some {w : World} {rb L U g cap v : Nat} {x : Int} {woken : Bool} {s6 : Value} (row : w.rowIs (L + 1) 57 279 (putF (putF (wkB rb L woken) 136 s6) 135 (.slice (some ⟨g, 0, none⟩) 1 cap))) (ch : w.heap[L]? = some (.chan 1 #[] false 0 0 false)) (hg : L + 1 < g) (hU : g < U)
    (hr : w.rangeAt g 0 (slL v (.int .i64 0))) (hx : Reads v x) : Wk w rb L U true x woken true (putF (putF (wkB rb L woken) 136 s6) 135 (.slice (some ⟨g, 0, none⟩) 1 cap)) where
  lt := by omega
  row := row
  f0 := by simp [wkB, putF, wk0]
  f3 := by simp [wkB, putF]
  f4 := by simp [wkB, putF]
  f5 := by simp [wkB, putF, wk5]
  f134 := by simp [wkB, putF, wk134]
  f138 := by simp [wkB, putF, wk138]
  ch := fun _ => ch
  q := .inr ⟨rfl, g, cap, v, .int .i64 0, by simp [putF], hg, hU, hr, hx⟩

set_option maxHeartbeats 4000000 in
set_option maxRecDepth 100000 in
theorem law_any {w : World} {aw : Option Addr} {n cw p : Nat} {has woken : Nat → Bool} {x : Nat → Int} {he hw : Bool} {y W G : Int} (hn : n ≤ 1024) (hp : p ≤ 255) (hI : Ws w aw n has woken x)
    (bx : ∀ k, -32768 ≤ x k ∧ x k ≤ 32767) (by' : -32768 ≤ y ∧ y ≤ 32767) (bW : -32768 ≤ W ∧ W ≤ 32767) (bG : -32768 ≤ G ∧ G ≤ 32767) :
    Calls Yba.prog 5 #[.slice aw n cw, .int .i16 y, .bool he, .int .i16 W, .bool hw, .int .i16 G, .int .u8 (p : Int)] w fun e w' => e = .returned (.bool true) ∧ Below w.heap.size w w' := by
  have HI := hide hI
  clear hI
  obtain ⟨c84, h84, hm84⟩ := made84 n hn
  have H84 := hide h84
  clear h84
  go_enter Yba.func5, Yba.ntmps5
  have ry : Hid (Reads (floatOfInt .f64 y) y) := reads_ofInt y (by omega)
  have rW : Hid (Reads (floatOfInt .f64 W) W) := reads_ofInt W (by omega)
  have rG : Hid (Reads (floatOfInt .f64 G) G) := reads_ofInt G (by omega)
  have r14 := run14' (floatOfInt .f64 y) (floatOfInt .f64 W) (floatOfInt .f64 G) he hw
  go_upto_block 0 with (first
    | (guard_target = wpList _ _ _ (⟨_, Op.build 79 _, _, _, _, _⟩ :: _) _ _; go_must (refine wpList_build4 rfl 79 _ _ _ _ _ _ _ _ rfl (.float .f64 (floatOfInt .f64 y)) (.bool he) (.float .f64 (floatOfInt .f64 W)) (.bool hw) rfl rfl rfl rfl _ (build79 (floatOfInt .f64 y) (floatOfInt .f64 W) he hw _) ?_))
    | (guard_target = wpList _ _ _ (⟨_, Op.build 106 _, _, _, _, _⟩ :: _) _ _; go_must (refine wpList_build2 rfl 106 _ _ _ _ rfl (.agg (cfgArr (floatOfInt .f64 y) (floatOfInt .f64 W) he hw)) (.float .f64 (floatOfInt .f64 G)) rfl rfl _ (build106 (floatOfInt .f64 y) (floatOfInt .f64 W) (floatOfInt .f64 G) he hw _) ?_))
    | go_in)
  have hg0 : Hid (w.heap.size + 2 = w.heap.size + 2) := rfl
  obtain ⟨wA, hA⟩ : ∃ wA, wA = (w.alloc (.cells ((runArr (floatOfInt .f64 y) (floatOfInt .f64 W) (floatOfInt .f64 G) he hw).setIfInBounds 14 (.slice (some ⟨w.heap.size + 1, 0, none⟩) n n)) 106)).alloc (.cells c84 24) := ⟨_, rfl⟩
  rw [← hA]
  have hrow : wA.rowIs w.heap.size 106 307 (putF (runF (floatOfInt .f64 y) (floatOfInt .f64 W) (floatOfInt .f64 G) he hw) 14 (.slice (some ⟨w.heap.size + 1, 0, none⟩) n n)) := by rw [hA]; rw [runF_def]; exact (row_put w _ 106 307 14 _ (run_size _ _ _ _ _)).alloc _
  have hrs : wA.rowIs (w.heap.size + 1) 24 n (fun k => c84[k]?.getD undef) := by
    rw [hA]
    have := row_new (w.alloc (.cells ((runArr (floatOfInt .f64 y) (floatOfInt .f64 W) (floatOfInt .f64 G) he hw).setIfInBounds 14 (.slice (some ⟨w.heap.size + 1, 0, none⟩) n n)) 106)) c84 24 n (unhide H84)
    rwa [show (w.alloc (.cells ((runArr (floatOfInt .f64 y) (floatOfInt .f64 W) (floatOfInt .f64 G) he hw).setIfInBounds 14 (.slice (some ⟨w.heap.size + 1, 0, none⟩) n n)) 106)).heap.size = w.heap.size + 1 by simp] at this
  have hsz : wA.heap.size = w.heap.size + 2 := by rw [hA]; simp
  have hbA : Below w.heap.size w wA := by rw [hA]; exact ((Below.refl _ _).alloc (Nat.le_refl _) _).alloc (by simp) _
  clear hA
  obtain ⟨g, hg⟩ : ∃ g, Hid (g = putF (runF (floatOfInt .f64 y) (floatOfInt .f64 W) (floatOfInt .f64 G) he hw) 14 (.slice (some ⟨w.heap.size + 1, 0, none⟩) n n)) := ⟨_, rfl⟩
  rw [← unhide hg] at hrow
  have hcfg : Cfg g (floatOfInt .f64 y) (floatOfInt .f64 W) (floatOfInt .f64 G) he hw := by
    rw [unhide hg]
    have h := run_cfg (floatOfInt .f64 y) (floatOfInt .f64 W) (floatOfInt .f64 G) he hw
    exact ⟨by simp [putF, h.g0], by simp [putF, h.g1], by simp [putF, h.g6], by simp [putF, h.g7], by simp [putF, h.g278], by simp [putF, h.g289]⟩
  have g143 : g 143 = .int .i64 0 := by rw [unhide hg]; simp [putF, run143]
  have g14 : g 14 = .slice (some ⟨w.heap.size + 1, 0, none⟩) n n := by rw [unhide hg]; simp [putF]
  have hSt : Hid (BldAt w wA w.heap.size (w.heap.size + 1) n (fun _ => w.heap.size + 2) has woken x g (fun k => c84[k]?.getD undef) 0) :=
    ⟨hrow, hrs.congr fun k hk => by simp, by omega, Nat.le_refl _, by omega, hsz.symm, fun k hk => by omega, hbA⟩
  have HC := hide hcfg
  have H143 := hide g143
  have H14 := hide g14
  clear r14 hg0 hrow hrs hsz hbA hg hcfg g143 g14 hm84
  go_cut [] (fun wq => ∃ lo, Hid (BldAt w wq w.heap.size (w.heap.size + 1) n lo has woken x g (fun k => c84[k]?.getD undef) n))
  case first =>
    go_wp2_with fail
    go_loopw [52] (fun iv wr => ∃ i : Nat, i ≤ n ∧ iv = .int .i64 (i : Int) ∧ ∃ lo, Hid (BldAt w wr w.heap.size (w.heap.size + 1) n lo has woken x g (fun k => c84[k]?.getD undef) i)) (fun iv _ => n - (intOf iv).toNat)
    case atStart => exact ⟨0, Nat.zero_le _, rfl, _, hSt⟩
    case round =>
      obtain ⟨i, hi, rfl, lo, hW'⟩ := hrel
      by_cases hlt : i < n
      · rcases unhide HI with hI | ⟨b, o, rfl, hc⟩
        · omega
        have hbb := World.block_lt_of_cell? _ _ (hc i hlt).1
        have d0 := cell_stays (unhide hW').bel (hc i hlt).1
        have d1 := cell_stays (unhide hW').bel (hc i hlt).2.1
        have d2 := cell_stays (unhide hW').bel (hc i hlt).2.2
        clear hc
        have hbw := World.block_lt_of_cell? _ _ d0
        have i0 : (0 : Int) ≤ (i : Int) := by omega
        have i1 : (i : Int) < (n : Int) := by omega
        have bxi := bx i
        have hmc := mkch
        have k3 := wk3' w.heap.size wr.heap.size
        have hrb := (unhide hW').run.lt
        have hsb := (unhide hW').ws.lt
        go_upto_region 10 with (first
          | (guard_target = wpList _ _ _ (⟨_, Op.build 42 _, _, _, _, _⟩ :: _) _ _; go_must (refine wpList_build1 rfl 42 _ _ rfl (.chan (some wr.heap.size)) rfl _ (build42 wr.heap.size _) ?_))
          | (guard_target = wpList _ _ _ (⟨_, Op.build 57 _, _, _, _, _⟩ :: _) _ _; go_must (refine wpList_build2 rfl 57 _ _ _ _ rfl (.pointer (some ⟨w.heap.size, 0, none⟩)) (.agg (boxArr wr.heap.size)) rfl rfl _ (build57 w.heap.size wr.heap.size _) ?_))
          | go_in)
        obtain ⟨w2, hw2⟩ : ∃ w2, w2 = (wr.alloc (.chan 1 #[] false 0 0 false)).alloc (.cells ((wkArr w.heap.size wr.heap.size).setIfInBounds 3 (.bool (woken i))) 57) := ⟨_, rfl⟩
        rw [← hw2]
        have hf2 : w2.rowIs (wr.heap.size + 1) 57 279 (putF (wkF w.heap.size wr.heap.size) 3 (.bool (woken i))) := by
          rw [hw2, wkF_def]
          have := row_put (wr.alloc (.chan 1 #[] false 0 0 false)) (wkArr w.heap.size wr.heap.size) 57 279 3 (.bool (woken i)) (wk_size _ _)
          rwa [show (wr.alloc (.chan 1 #[] false 0 0 false)).heap.size = wr.heap.size + 1 by simp] at this
        have hb2 : Below wr.heap.size wr w2 := by rw [hw2]; exact ((Below.refl _ _).alloc (Nat.le_refl _) _).alloc (by simp) _
        have hch2 : w2.heap[wr.heap.size]? = some (.chan 1 #[] false 0 0 false) := by
          rw [hw2, Below.heap_alloc _ _ _ (by simp)]
          show (wr.heap.push _)[wr.heap.size]? = _
          simp
        have sz2 : w2.heap.size = wr.heap.size + 2 := by rw [hw2]; simp
        clear hw2 k3
        have e2 := cell_stays hb2 d2
        have HB2 := hide hb2
        have HF2 := hide hf2
        have HCH2 := hide hch2
        have SZ2 := hide sz2
        clear hb2 hf2 hch2 sz2
        have hbne : b ≠ wr.heap.size + 1 := by have : b < wr.heap.size := hbw; omega
        go_region_held3 (fun w' => w'.cell? ⟨b, o + i * 3 + 2, none⟩ = some (.bool (woken i)))
          ((first | exact e2 | exact d2w))
          ((go_at_call 8; refine (bstore_any (wr.heap.size + 1) 4 (woken i) _ w2.drew ((unhide HF2).cell (by omega)) ((unhide HF2).frozen 4)).mono ?_; rintro e w3 ⟨rfl, hw3'⟩; have hw3 := hide hw3'; clear hw3'; have d2w : w3.cell? ⟨b, o + i * 3 + 2, none⟩ = some (.bool (woken i)) := (by rw [unhide hw3]; exact (World.cell?_of_block (a := ⟨b, o + i * 3 + 2, none⟩) (Below.heap_setCell w2.drew ⟨wr.heap.size + 1, 4, none⟩ (.int .u32 (bit (woken i))) b hbne)).trans e2)))
        have hf3 : w3.rowIs (wr.heap.size + 1) 57 279 (wkB w.heap.size wr.heap.size (woken i)) := by rw [unhide hw3]; exact (unhide HF2).set 4 _
        have hb3 : Below wr.heap.size wr w3 := by rw [unhide hw3]; exact (((unhide HB2).drew).setCell (by show wr.heap.size ≤ wr.heap.size + 1; omega) _).drew
        have hch3 : w3.heap[wr.heap.size]? = some (.chan 1 #[] false 0 0 false) := by rw [unhide hw3]; exact (Below.heap_setCell w2.drew ⟨wr.heap.size + 1, 4, none⟩ (.int .u32 (bit (woken i))) wr.heap.size (by show wr.heap.size ≠ wr.heap.size + 1; omega)).trans (unhide HCH2)
        have sz3 : w3.heap.size = wr.heap.size + 2 := by rw [unhide hw3]; exact (by simp : (w2.drew.setCell ⟨wr.heap.size + 1, 4, none⟩ (.int .u32 (bit (woken i)))).heap.size = w2.heap.size).trans (unhide SZ2)
        clear hw3 d2w
        have e0 := cell_stays hb3 d0
        have e1 := cell_stays hb3 d1
        have hbw3 := World.block_lt_of_cell? _ _ e0
        have HB3 := hide hb3
        have HF3 := hide hf3
        have HCH3 := hide hch3
        have SZ3 := hide sz3
        have hrb3 : w.heap.size < w3.heap.size := by omega
        have c14 : w3.cell? ⟨w.heap.size, 14, none⟩ = some (.slice (some ⟨w.heap.size + 1, 0, none⟩) n n) := cell_stays hb3 (((unhide hW').run.cell (by omega)).trans (by rw [unhide H14]))
        have cs := cell_stays hb3 ((unhide hW').ws.cell hlt)
        have zs : w3.frozen? ⟨w.heap.size + 1, i, none⟩ = false := (hb3.frozen (p := ⟨w.heap.size + 1, i, none⟩) hsb).trans ((unhide hW').ws.frozen i)
        have hsb3 : w.heap.size + 1 < w3.heap.size := by omega
        clear hb3 hf3 hch3 sz3 d0 d1 d2 e2
        cases hh : has i
        · rw [hh] at e0
          have Hh := hide hh
          clear hh
          go_wp2_with fail
          have hwk : Wk w3 w.heap.size wr.heap.size w3.heap.size (has i) (x i) (woken i) true (wkB w.heap.size wr.heap.size (woken i)) := by rw [unhide Hh]; exact wk_none (unhide HF3) (unhide HCH3) (by have := unhide SZ3; omega)
          exact ⟨⟨i + 1, by omega, rfl, (unhide hW').step hlt (unhide HB3) hwk⟩, by simp [intOf]; omega⟩
        · rw [hh] at e0
          have Hh := hide hh
          clear hh
          go_upto_region 13 with (first
            | (guard_target = wpList _ _ _ (⟨_, Op.build 67 _, _, _, _, _⟩ :: _) _ _; go_must (refine wpList_build1 rfl 67 _ _ rfl (.float .f64 (floatOfInt .f64 (x i))) rfl _ (build67v (floatOfInt .f64 (x i)) _) ?_))
            | (guard_target = wpList _ _ _ (⟨_, Op.store 67 _ _, _, _, _, _⟩ :: _) _ _; go_must (refine wpList_store_mid rfl _ _ _ rfl w3.heap.size 0 (keyOf (floatOfInt .f64 (x i))) rfl rfl (there_new w3 _ 67 4 _ rfl (Nat.le_refl _)) info67 (key_one _) ?_))
            | go_in)
          obtain ⟨v, hv⟩ : ∃ v, floatOfInt .f64 (x i) = v := ⟨_, rfl⟩
          have rx : Hid (Reads v (x i)) := by rw [← hv]; exact reads_ofInt (x i) (by omega)
          rw [hv]
          clear hv
          have hE : Below w3.heap.size w3 ((w3.alloc (.cells #[.float .f64 0, .int .u64 0, .int .u64 0, .int .u64 0] 67)).setCells w3.heap.size 0 (keyOf v).toList) := below_setCells _ (Nat.le_refl _) _ _ ((Below.refl _ _).alloc (Nat.le_refl _) _)
          have hR : Hid (((w3.alloc (.cells #[.float .f64 0, .int .u64 0, .int .u64 0, .int .u64 0] 67)).setCells w3.heap.size 0 (keyOf v).toList).rangeAt w3.heap.size 0 (keyL v)) := World.rangeAt_setCells_same _ w3.heap.size 0 (keyL v) (there_new w3 _ 67 4 _ rfl (Nat.le_refl _))
          generalize (w3.alloc (.cells #[.float .f64 0, .int .u64 0, .int .u64 0, .int .u64 0] 67)).setCells w3.heap.size 0 (keyOf v).toList = w4 at hE hR ⊢
          have hf4 := (unhide HF3).of_block (hE.block _ (unhide HF3).lt)
          have HF4 := hide hf4
          have HE := hide hE
          have c14' := cell_stays hE c14
          have cs' := cell_stays hE cs
          have zs' : w4.frozen? ⟨w.heap.size + 1, i, none⟩ = false := (hE.frozen (p := ⟨w.heap.size + 1, i, none⟩) hsb3).trans zs
          have hbk := World.block_lt_of_cell? _ _ (unhide hR 0 _ rfl)
          clear hE hf4 c14 cs zs
          try simp only [Act.put]
          refine wp_region_held_drew (S := fun w' => w'.rangeAt w3.heap.size 0 (keyL v)) (by kernel_rfl) (unhide hR) (fun hHeld => ?_)
          refine wpAnyH_take (i := 0) (oi := { dst := some 91, op := Op.move (Operand.tmp 17), type := 24, pos := "zz_law_s3494b.go:23", after := _, guard := none }) (v := ?_) rfl (by kernel_rfl) (by kernel_rfl) (by kernel_rfl) (fun _ _ _ h => h) (Or.inl ⟨by rfl, ?_⟩) (by assumption) ?_
          rotate_left 1
          · (intro w hSw; (try dsimp only at hSw); go_simp <;> with_reducible rfl)
          try simp only [Act.put, List.setIfInBounds_toArray, List.set_cons_zero, List.set_cons_succ]
          refine wpAnyH_take (i := 1) (oi := { dst := some 92, op := Op.nilCheck (Operand.tmp 91), type := 0, pos := "zz_law_s3494b.go:23", after := _, guard := none }) (v := ?_) rfl (by kernel_rfl) (by kernel_rfl) (by kernel_rfl) (fun _ _ _ h => h) (Or.inl ⟨by rfl, ?_⟩) (by assumption) ?_
          rotate_left 1
          · (intro w hSw; (try dsimp only at hSw); go_simp <;> with_reducible rfl)
          try simp only [Act.put, List.setIfInBounds_toArray, List.set_cons_zero, List.set_cons_succ]
          refine wpAnyH_take (i := 2) (oi := { dst := some 93, op := Op.fieldAddr 57 (Operand.tmp 92) 3, type := 0, pos := "zz_law_s3494b.go:23", after := _, guard := none }) (v := ?_) rfl (by kernel_rfl) (by kernel_rfl) (by kernel_rfl) (fun _ _ _ h => h) (Or.inl ⟨by rfl, ?_⟩) (by assumption) ?_
          rotate_left 1
          · (intro w hSw; (try dsimp only at hSw); go_simp <;> with_reducible rfl)
          try simp only [Act.put, List.setIfInBounds_toArray, List.set_cons_zero, List.set_cons_succ]
          refine wpAnyH_take (i := 3) (oi := { dst := some 94, op := Op.load 67 (Operand.tmp 18), type := 67, pos := "zz_law_s3494b.go:23", after := _, guard := none }) rfl (by kernel_rfl) (by kernel_rfl) (by kernel_rfl) (fun _ _ _ h => h) (yieldsIf_load_mid (by rfl) _ _ rfl w3.heap.size 0 rfl (keyL v) _ (fun w h => h) Yba.underlying67 rfl info67) (by assumption) ?_
          try simp only [Act.put, List.setIfInBounds_toArray, List.set_cons_zero, List.set_cons_succ]
          refine wpAnyH_take (i := 4) (oi := { dst := some 95, op := Op.load 67 (Operand.tmp 18), type := 67, pos := "zz_law_s3494b.go:23", after := _, guard := none }) rfl (by kernel_rfl) (by kernel_rfl) (by kernel_rfl) (fun _ _ _ h => h) (yieldsIf_load_mid (by rfl) _ _ rfl w3.heap.size 0 rfl (keyL v) _ (fun w h => h) Yba.underlying67 rfl info67) (by assumption) ?_
          try simp only [Act.put, List.setIfInBounds_toArray, List.set_cons_zero, List.set_cons_succ]
          refine wpAnyH_take (i := 5) (oi := { dst := some 96, op := Op.build 69 #[(1, Operand.tmp 95)], type := 69, pos := "zz_law_s3494b.go:23", after := _, guard := none }) rfl (by kernel_rfl) (by kernel_rfl) (by kernel_rfl) (fun _ _ _ h => h) (yields_build1 (by rfl) 69 1 _ rfl (.agg (keyL v).toArray) rfl (sendL v).toArray (build69v v)) (by assumption) ?_
          try simp only [Act.put, List.setIfInBounds_toArray, List.set_cons_zero, List.set_cons_succ]
          refine wpAnyH_ready (rs := [6]) (by kernel_rfl) (by simp) ?_
          refine AllReadyH.cons (o := { dst := some 97, op := Op.call { callee := Callee.value (Operand.func 9), args := #[Operand.tmp 93, Operand.tmp 94, Operand.tmp 96], argTypes := #[50, 67, 69] }, type := 0, pos := "zz_law_s3494b.go:23", after := _, guard := none }) rfl (fun K hK => ?_) AllReadyH.nil
          go_simp
          refine (add_any (w := w4.drew) (v := v) (unhide HF4) (by simp [wkB, putF, wk135]) (by simp [wkB, putF, wk136]) (by simp [wkB, putF, wk137])).mono ?_
          rintro e w5 ⟨rfl, gq, cap, s6, hg0, hg1, hgr, hrow, hrg⟩
          try (go_wp2_with fail)
          refine hK.out _ _ (range_far (unhide hR) (hgr.block w3.heap.size (by show w3.heap.size < w4.heap.size; exact hbk) (by have := unhide SZ3; simp; omega))) (fun hHeld => ?_)
          clear hK K
          try simp only [Act.put, List.setIfInBounds_toArray, List.set_cons_zero, List.set_cons_succ]
          refine wpAnyH_done (by kernel_rfl) ?_ _
          have s3 := unhide SZ3
          have hg0' : w4.heap.size ≤ gq := hg0
          have far : ∀ k, k < w4.heap.size → k ≠ wr.heap.size + 1 → w5.heap[k]? = w4.heap[k]? := fun k h1 h2 => hgr.block k h1 (by simpa using h2)
          have c5 : w5.cell? ⟨w.heap.size, 14, none⟩ = some (.slice (some ⟨w.heap.size + 1, 0, none⟩) n n) := (World.cell?_of_block (a := ⟨w.heap.size, 14, none⟩) (far _ (by show w.heap.size < w4.heap.size; omega) (by show w.heap.size ≠ wr.heap.size + 1; omega))).trans c14'
          have s5 := (World.cell?_of_block (a := ⟨w.heap.size + 1, i, none⟩) (far _ (by show w.heap.size + 1 < w4.heap.size; omega) (by show w.heap.size + 1 ≠ wr.heap.size + 1; omega))).trans cs'
          have z5 : w5.frozen? ⟨w.heap.size + 1, i, none⟩ = false := (World.frozen?_of_block (a := ⟨w.heap.size + 1, i, none⟩) (far _ (by show w.heap.size + 1 < w4.heap.size; omega) (by show w.heap.size + 1 ≠ wr.heap.size + 1; omega))).trans zs'
          have hb4 : Below wr.heap.size wr w4 := below_more (unhide HB3) (unhide HE)
          have hb5 : Hid (Below wr.heap.size wr w5) := (hb4.drew).grown hgr (by show wr.heap.size ≤ w4.heap.size; omega) (fun k hk => by simp at hk; omega)
          have hch5 : w5.heap[wr.heap.size]? = some (.chan 1 #[] false 0 0 false) := (far _ (by omega) (by omega)).trans (((unhide HE).block _ (by omega)).trans (unhide HCH3))
          have hwk : Hid (Wk w5 w.heap.size wr.heap.size w5.heap.size (has i) (x i) (woken i) true (putF (putF (wkB w.heap.size wr.heap.size (woken i)) 136 s6) 135 (.slice (some ⟨gq, 0, none⟩) 1 cap))) := by rw [unhide Hh]; exact wk_some hrow hch5 (by omega) hg1 hrg (unhide rx)
          clear hgr hrow hrg hg0 hg0' far hb4 hch5 c14' cs' zs' s3
          go_wp2_with fail
          exact ⟨⟨i + 1, by omega, rfl, (unhide hW').step hlt (unhide hb5) (unhide hwk)⟩, by simp [intOf]; omega⟩
      · obtain rfl : n = i := by omega
        go_wp2_with fail
        go_meet
        exact ⟨lo, hW'⟩
  case rest =>
    obtain ⟨lo, hBd⟩ := hcut
    have hgr := (unhide hBd).grp (unhide H14)
    exact (by assumption : ∀ (a : Act) (w0 : World), Code.wp Yba.prog tail5 (bodyPost Yba.prog Yba.f5 fun e w' => e = .returned (.bool true) ∧ Below w.heap.size w w') a w0 → _) _ _ (law_t5 hn hp (unhide HI) hgr (unhide HC) (unhide H143) (unhide hBd).bel (unhide hBd).wrb (unhide ry) (unhide rW) (unhide rG) bx by' bW bG)

end Go.Proofs.Ybulkbtik

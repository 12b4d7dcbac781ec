import Derived.Test.YbulkbtkoTellA
import Derived.Deep.OwnRows
import Derived.OwnWalk
namespace Go.Proofs.Ybulkbtko
open Go.RowKit Go.Maps

/-- The first m pairs of a row of two-cell elements. -/
def Told2 (tn tf : List Int) (f : Nat → Value) (m : Nat) : Prop := ∀ i, i < m → f (i * 2) = .int .i64 (at0 tn i) ∧ f (i * 2 + 1) = .int .i64 (at0 tf i)
theorem told2_zero (tn tf : List Int) (f : Nat → Value) : Told2 tn tf f 0 := fun _ h => absurd h (Nat.not_lt_zero _)
theorem told2_succ {tn tf : List Int} {f : Nat → Value} {m : Nat} (h : Told2 tn tf f m) :
    Told2 tn tf (fun j => if j = m * 2 + 1 then .int .i64 (at0 tf m) else if j = m * 2 then .int .i64 (at0 tn m) else f j) (m + 1) := by
  intro i hi
  by_cases e : i = m
  · subst e
    refine ⟨?_, ?_⟩
    · show (if _ then _ else _) = _
      rw [if_neg (by omega), if_pos rfl]
    · show (if _ then _ else _) = _
      rw [if_pos rfl]
  · have := h i (by omega)
    refine ⟨?_, ?_⟩
    · show (if _ then _ else _) = _
      rw [if_neg (by omega), if_neg (by omega)]; exact this.1
    · show (if _ then _ else _) = _
      rw [if_neg (by omega), if_neg (by omega)]; exact this.2
theorem told_take {tn tf : List Int} {f : Nat → Value} {m : Nat} (h : Told2 tn tf f m) : Told2 tn tf f m := h

theorem rowIs_new (w : World) (cs : Array Value) (t : TypeId) (n : Nat) (h : cs.size = n) : (w.alloc (.cells cs t)).rowIs w.heap.size t n (fun i => cs[i]?.getD undef) := by
  subst h
  exact World.rowIs_alloc w cs t _ (fun i hi => by simp [hi])

theorem frozen_new (w : World) (cs : Array Value) (t : TypeId) (i : Nat) : (w.alloc (.cells cs t)).frozen? ⟨w.heap.size, i, none⟩ = false := by
  go_simp

theorem info59 : (Yba.prog.info? 59).map (fun i => (i.zero, i.size, i.bytes)) = some (some (.agg #[.int .i64 0, .int .i64 0]), 2, 16) := by kernel_rfl

theorem wpList_make_two {w : World} {ops : Array Oper} {rest : List Oper} {o : Oper} {a : Act} {Q : Exit → Act → World → Prop}
    (hg : o.guard = Option.none) (l c : Operand) (hop : o.op = Op.makeSlice 42 l c) (n : Nat) (hl : a.eval l = .int .i64 (n : Int)) (hc : a.eval c = .int .i64 (n : Int)) (hn : n ≤ 1024)
    (hK : wpList Yba.prog ops Q rest (a.put o.dst (.slice (some ⟨w.heap.size, 0, none⟩) n n)) (w.alloc (.cells (madeCells #[.int .i64 0, .int .i64 0] (n * 2)) 59))) :
    wpList Yba.prog ops Q (o :: rest) a w := by
  obtain ⟨i, hi, hz, hs, hb⟩ := info_parts info59
  refine wpList_plain hg fun K hK' => ?_
  have hrun := run_make (P := Yba.prog) w 42 59 i _ Yba.underlying42 hi hz .i64 .i64 n n (by omega) (Int.le_refl _) (by rw [hb]; omega) (by omega)
  simp only [Int.toNat_natCast, hs] at hrun
  unfold Oper.wp
  simp [execOp, hop, hl, hc, hrun, Result.andThen]
  exact hK' _ _ hK

theorem wpList_build_three {P : Program} {w : World} {ops : Array Oper} {rest : List Oper} {o : Oper} {a : Act} {Q : Exit → Act → World → Prop} (hg : o.guard = Option.none) (t : TypeId) (i j k : Nat) (x y z : Operand) (hop : o.op = Op.build t #[(i, x), (j, y), (k, z)])
    (vx vy vz : Value) (hx : a.eval x = vx) (hy : a.eval y = vy) (hz : a.eval z = vz) (cs : Array Value) (hrun : (Instr.build t #[(i, vx), (j, vy), (k, vz)]).run P w = .ok (.agg cs) w)
    (hK : wpList P ops Q rest (a.put o.dst (.agg cs)) w) : wpList P ops Q (o :: rest) a w := by
  refine wpList_plain hg fun K' hK' => ?_
  unfold Oper.wp execOp
  simp only [hop, List.map_toArray, List.map_cons, List.map_nil, hx, hy, hz, Sem.run_bind, hrun, Result.andThen_ok]
  exact hK' _ _ hK

theorem node_cells3 (b : Nat) (r : Int) (sl : Value) (a : Option Addr) (l c : Nat) (e : sl = .slice a l c) : ∃ cs : Array Value, (∀ w, (Instr.build 48 #[(17, .map (some b)), (22, .int .i64 r), (14, sl)]).run Yba.prog w = .ok (.agg cs) w) ∧ cs[779]? = some sl ∧ cs[782]? = some (.map (some b)) ∧ cs[787]? = some (.int .i64 r) ∧ cs.size = 790 := by
  subst e
  have h : ((Yba.prog.built 48 [(17, .map (some b)), (22, .int .i64 r), (14, .slice a l c)]).map fun cs => (cs.size, cs[779]?, cs[782]?, cs[787]?)) = some (790, some (.slice a l c), some (.map (some b)), some (.int .i64 r)) := by kernel_rfl
  obtain ⟨cs, hc, h⟩ := Option.map_eq_some_iff.1 h
  simp only [Prod.mk.injEq] at h
  exact ⟨cs, fun w => run_build w 48 _ cs hc, h.2.1, h.2.2.1, h.2.2.2, h.1⟩

set_option maxHeartbeats 1000000 in
theorem cbuild_any (ak av an af : Option Addr) (ck cv cn cf : Nat) (ks vs tn tf : List Int) (r : Int) (w : World) (hk : Row .i64 w ak ks) (hv : Row .i64 w av vs) (hn : Row .i64 w an tn) (hf : Row .i64 w af tf)
    (lk : ks.length ≤ 1024) (lv : vs.length ≤ 1024) (ln : tn.length ≤ 1024) (lf : tf.length ≤ 1024) (m t : Nat) (hm0 : IsMin ks.length vs.length m) (ht0 : IsMin tn.length tf.length t)
    (wk : ∀ n ∈ ks, (Lit.int .i64 n).wf = true) (wv : ∀ n ∈ vs, (Lit.int .i64 n).wf = true) :
    Calls Yba.prog 13 #[.slice ak ks.length ck, .slice av vs.length cv, .int .i64 r, .slice an tn.length cn, .slice af tf.length cf] w fun e w' => ∃ nb sb f, e = .returned (.tuple #[.pointer (some ⟨nb, 0, none⟩), .int .i64 m, .int .i64 t]) ∧
      w'.ownsMap Yba.prog 3 (plainElem Yba.prog 3) w.heap.size m (mapN .i64 ks vs m) ∧ w'.rowIs sb 59 (t * 2) f ∧ Told2 tn tf f t ∧
      w'.cell? ⟨nb, 779, none⟩ = some (.slice (some ⟨sb, 0, none⟩) t t) ∧ w'.cell? ⟨nb, 782, none⟩ = some (.map (some w.heap.size)) ∧ w'.cell? ⟨nb, 787, none⟩ = some (.int .i64 r) ∧ w'.frozen? ⟨nb, 779, none⟩ = false ∧
      w.heap.size < sb ∧ sb < nb ∧ Below w.heap.size w w' := by
  have hmm := @run_makeMap Yba.prog
  rcases hm0 with ⟨hlt, rfl⟩ | ⟨hlt, rfl⟩ <;> rcases ht0 with ⟨hlt2, rfl⟩ | ⟨hlt2, rfl⟩
  · go_enter Yba.func13, Yba.ntmps13
    go_wp2
    go_loopw [15] (fun i wr => ∃ m : Nat, m ≤ vs.length ∧ i = .int .i64 m ∧ wr.ownsMap Yba.prog 3 (plainElem Yba.prog 3) w.heap.size m (mapN .i64 ks vs m) ∧ Below w.heap.size w wr) (fun i _ => vs.length - (intOf i).toNat)
    case atStart => exact ⟨0, Nat.zero_le _, rfl, World.ownsMap_made _ _ _ _, (Below.refl _ _).alloc (Nat.le_refl _) _⟩
    case round =>
      obtain ⟨m, hm, rfl, hown, hB⟩ := hrel
      by_cases hm1 : m < vs.length
      · rcases hk with hk | ⟨b, o, rfl, hb, hc⟩
        · omega
        rcases hv with hv | ⟨bv, ov, rfl, hbv, hcv⟩
        · omega
        have hx := (hB.cell (p := ⟨b, o + m, none⟩) hb).trans (hc m (by omega))
        have hy := (hB.cell (p := ⟨bv, ov + m, none⟩) hbv).trans (hcv m (by omega))
        obtain ⟨w1, hput, hown1, hg1⟩ := put_mapN Yba.underlying43 Yba.underlying3 hown.drew (by omega) (wf_at0 wk m) (wf_at0 wv m)
        go_wp2
        go_region
        all_goals go_wp2
        go_roundw
        case rel => exact ⟨m + 1, by omega, by go_num, hown1, (hB.drew).grown hg1 hB.size (fun j hj => by cases hj; exact Nat.le_refl _)⟩
        case measure => simp [intOf]; omega
      · have hmm : m = vs.length := by omega
        subst hmm
        rename World => w1
        have hBlt := hown.lt
        go_wp2_with (first
          | (at_make; refine wpList_make_two rfl _ _ rfl tf.length rfl rfl (by omega) ?_)
          | go_in)
        go_loopw [18] (fun i wx => ∃ (m : Nat) (f : Nat → Value), m ≤ tf.length ∧ i = .int .i64 m ∧ wx.rowIs w1.heap.size 59 (tf.length * 2) f ∧ Told2 tn tf f m ∧
            wx.ownsMap Yba.prog 3 (plainElem Yba.prog 3) w.heap.size vs.length (mapN .i64 ks vs vs.length) ∧ Below w.heap.size w wx) (fun i _ => tf.length - (intOf i).toNat)
        case atStart => exact ⟨0, _, Nat.zero_le _, rfl, rowIs_new w1 _ 59 _ (size_madeCells _ _), told2_zero _ _ _, hown.alloc _, hB.alloc hB.size _⟩
        case round =>
          obtain ⟨m, f, hm2, rfl, hrow, htold, hown2, hB2⟩ := hrel
          by_cases hm3 : m < tf.length
          · rcases hn with hn | ⟨b, o, rfl, hb, hc⟩
            · omega
            rcases hf with hf | ⟨bv, ov, rfl, hbv, hcv⟩
            · omega
            have hx := (hB2.cell (p := ⟨b, o + m, none⟩) hb).trans (hc m (by omega))
            have hy := (hB2.cell (p := ⟨bv, ov + m, none⟩) hbv).trans (hcv m (by omega))
            have q0 := hrow.cell (i := m * 2) (by omega)
            have q1 := hrow.cell (i := m * 2 + 1) (by omega)
            have z0 := hrow.frozen (m * 2)
            have z1 := hrow.frozen (m * 2 + 1)
            have hsb := hB.size
            go_wp2
            go_region
            all_goals go_wp2
            go_roundw
            case rel => exact ⟨m + 1, _, by omega, by go_num, (hrow.set (m * 2) (.int .i64 (at0 tn m))).set (m * 2 + 1) (.int .i64 (at0 tf m)), told2_succ htold, (hown2.setCell (by show _ ≠ w1.heap.size; omega) _).setCell (by show _ ≠ w1.heap.size; omega) _, ((hB2.setCell (by show _ ≤ w1.heap.size; omega) _).setCell (by show _ ≤ w1.heap.size; omega) _).drew⟩
            case measure => simp [intOf]; omega
          · have hmm : m = tf.length := by omega
            subst hmm
            obtain ⟨cs, hbuild, h779, h782, h787, hsz⟩ := node_cells3 w.heap.size r _ (some ⟨w1.heap.size, 0, none⟩) tf.length tf.length rfl
            have hsb := hB.size
            have hlt2 := hrow.lt
            go_wp2_with (first
              | (guard_target = wpList _ _ _ (⟨_, Op.build 48 _, _, _, _, _⟩ :: _) _ _; refine wpList_build_three rfl _ _ _ _ _ _ _ rfl _ _ _ rfl rfl rfl cs (hbuild _) ?_)
              | go_in)
            go_ret3
            exact ⟨_, _, f, rfl, hown2.alloc _, hrow.alloc _, told_take htold, cell_new _ cs 48 779 h779, cell_new _ cs 48 782 h782, cell_new _ cs 48 787 h787, frozen_new _ cs 48 779, by omega, by omega, hB2.alloc hB2.size _⟩
  · go_enter Yba.func13, Yba.ntmps13
    go_wp2
    go_loopw [15] (fun i wr => ∃ m : Nat, m ≤ vs.length ∧ i = .int .i64 m ∧ wr.ownsMap Yba.prog 3 (plainElem Yba.prog 3) w.heap.size m (mapN .i64 ks vs m) ∧ Below w.heap.size w wr) (fun i _ => vs.length - (intOf i).toNat)
    case atStart => exact ⟨0, Nat.zero_le _, rfl, World.ownsMap_made _ _ _ _, (Below.refl _ _).alloc (Nat.le_refl _) _⟩
    case round =>
      obtain ⟨m, hm, rfl, hown, hB⟩ := hrel
      by_cases hm1 : m < vs.length
      · rcases hk with hk | ⟨b, o, rfl, hb, hc⟩
        · omega
        rcases hv with hv | ⟨bv, ov, rfl, hbv, hcv⟩
        · omega
        have hx := (hB.cell (p := ⟨b, o + m, none⟩) hb).trans (hc m (by omega))
        have hy := (hB.cell (p := ⟨bv, ov + m, none⟩) hbv).trans (hcv m (by omega))
        obtain ⟨w1, hput, hown1, hg1⟩ := put_mapN Yba.underlying43 Yba.underlying3 hown.drew (by omega) (wf_at0 wk m) (wf_at0 wv m)
        go_wp2
        go_region
        all_goals go_wp2
        go_roundw
        case rel => exact ⟨m + 1, by omega, by go_num, hown1, (hB.drew).grown hg1 hB.size (fun j hj => by cases hj; exact Nat.le_refl _)⟩
        case measure => simp [intOf]; omega
      · have hmm : m = vs.length := by omega
        subst hmm
        rename World => w1
        have hBlt := hown.lt
        go_wp2_with (first
          | (at_make; refine wpList_make_two rfl _ _ rfl tn.length rfl rfl (by omega) ?_)
          | go_in)
        go_loopw [18] (fun i wx => ∃ (m : Nat) (f : Nat → Value), m ≤ tn.length ∧ i = .int .i64 m ∧ wx.rowIs w1.heap.size 59 (tn.length * 2) f ∧ Told2 tn tf f m ∧
            wx.ownsMap Yba.prog 3 (plainElem Yba.prog 3) w.heap.size vs.length (mapN .i64 ks vs vs.length) ∧ Below w.heap.size w wx) (fun i _ => tn.length - (intOf i).toNat)
        case atStart => exact ⟨0, _, Nat.zero_le _, rfl, rowIs_new w1 _ 59 _ (size_madeCells _ _), told2_zero _ _ _, hown.alloc _, hB.alloc hB.size _⟩
        case round =>
          obtain ⟨m, f, hm2, rfl, hrow, htold, hown2, hB2⟩ := hrel
          by_cases hm3 : m < tn.length
          · rcases hn with hn | ⟨b, o, rfl, hb, hc⟩
            · omega
            rcases hf with hf | ⟨bv, ov, rfl, hbv, hcv⟩
            · omega
            have hx := (hB2.cell (p := ⟨b, o + m, none⟩) hb).trans (hc m (by omega))
            have hy := (hB2.cell (p := ⟨bv, ov + m, none⟩) hbv).trans (hcv m (by omega))
            have q0 := hrow.cell (i := m * 2) (by omega)
            have q1 := hrow.cell (i := m * 2 + 1) (by omega)
            have z0 := hrow.frozen (m * 2)
            have z1 := hrow.frozen (m * 2 + 1)
            have hsb := hB.size
            go_wp2
            go_region
            all_goals go_wp2
            go_roundw
            case rel => exact ⟨m + 1, _, by omega, by go_num, (hrow.set (m * 2) (.int .i64 (at0 tn m))).set (m * 2 + 1) (.int .i64 (at0 tf m)), told2_succ htold, (hown2.setCell (by show _ ≠ w1.heap.size; omega) _).setCell (by show _ ≠ w1.heap.size; omega) _, ((hB2.setCell (by show _ ≤ w1.heap.size; omega) _).setCell (by show _ ≤ w1.heap.size; omega) _).drew⟩
            case measure => simp [intOf]; omega
          · have hmm : m = tn.length := by omega
            subst hmm
            obtain ⟨cs, hbuild, h779, h782, h787, hsz⟩ := node_cells3 w.heap.size r _ (some ⟨w1.heap.size, 0, none⟩) tn.length tn.length rfl
            have hsb := hB.size
            have hlt2 := hrow.lt
            go_wp2_with (first
              | (guard_target = wpList _ _ _ (⟨_, Op.build 48 _, _, _, _, _⟩ :: _) _ _; refine wpList_build_three rfl _ _ _ _ _ _ _ rfl _ _ _ rfl rfl rfl cs (hbuild _) ?_)
              | go_in)
            go_ret3
            exact ⟨_, _, f, rfl, hown2.alloc _, hrow.alloc _, told_take htold, cell_new _ cs 48 779 h779, cell_new _ cs 48 782 h782, cell_new _ cs 48 787 h787, frozen_new _ cs 48 779, by omega, by omega, hB2.alloc hB2.size _⟩
  · go_enter Yba.func13, Yba.ntmps13
    go_wp2
    go_loopw [15] (fun i wr => ∃ m : Nat, m ≤ ks.length ∧ i = .int .i64 m ∧ wr.ownsMap Yba.prog 3 (plainElem Yba.prog 3) w.heap.size m (mapN .i64 ks vs m) ∧ Below w.heap.size w wr) (fun i _ => ks.length - (intOf i).toNat)
    case atStart => exact ⟨0, Nat.zero_le _, rfl, World.ownsMap_made _ _ _ _, (Below.refl _ _).alloc (Nat.le_refl _) _⟩
    case round =>
      obtain ⟨m, hm, rfl, hown, hB⟩ := hrel
      by_cases hm1 : m < ks.length
      · rcases hk with hk | ⟨b, o, rfl, hb, hc⟩
        · omega
        rcases hv with hv | ⟨bv, ov, rfl, hbv, hcv⟩
        · omega
        have hx := (hB.cell (p := ⟨b, o + m, none⟩) hb).trans (hc m (by omega))
        have hy := (hB.cell (p := ⟨bv, ov + m, none⟩) hbv).trans (hcv m (by omega))
        obtain ⟨w1, hput, hown1, hg1⟩ := put_mapN Yba.underlying43 Yba.underlying3 hown.drew (by omega) (wf_at0 wk m) (wf_at0 wv m)
        go_wp2
        go_region
        all_goals go_wp2
        go_roundw
        case rel => exact ⟨m + 1, by omega, by go_num, hown1, (hB.drew).grown hg1 hB.size (fun j hj => by cases hj; exact Nat.le_refl _)⟩
        case measure => simp [intOf]; omega
      · have hmm : m = ks.length := by omega
        subst hmm
        rename World => w1
        have hBlt := hown.lt
        go_wp2_with (first
          | (at_make; refine wpList_make_two rfl _ _ rfl tf.length rfl rfl (by omega) ?_)
          | go_in)
        go_loopw [18] (fun i wx => ∃ (m : Nat) (f : Nat → Value), m ≤ tf.length ∧ i = .int .i64 m ∧ wx.rowIs w1.heap.size 59 (tf.length * 2) f ∧ Told2 tn tf f m ∧
            wx.ownsMap Yba.prog 3 (plainElem Yba.prog 3) w.heap.size ks.length (mapN .i64 ks vs ks.length) ∧ Below w.heap.size w wx) (fun i _ => tf.length - (intOf i).toNat)
        case atStart => exact ⟨0, _, Nat.zero_le _, rfl, rowIs_new w1 _ 59 _ (size_madeCells _ _), told2_zero _ _ _, hown.alloc _, hB.alloc hB.size _⟩
        case round =>
          obtain ⟨m, f, hm2, rfl, hrow, htold, hown2, hB2⟩ := hrel
          by_cases hm3 : m < tf.length
          · rcases hn with hn | ⟨b, o, rfl, hb, hc⟩
            · omega
            rcases hf with hf | ⟨bv, ov, rfl, hbv, hcv⟩
            · omega
            have hx := (hB2.cell (p := ⟨b, o + m, none⟩) hb).trans (hc m (by omega))
            have hy := (hB2.cell (p := ⟨bv, ov + m, none⟩) hbv).trans (hcv m (by omega))
            have q0 := hrow.cell (i := m * 2) (by omega)
            have q1 := hrow.cell (i := m * 2 + 1) (by omega)
            have z0 := hrow.frozen (m * 2)
            have z1 := hrow.frozen (m * 2 + 1)
            have hsb := hB.size
            go_wp2
            go_region
            all_goals go_wp2
            go_roundw
            case rel => exact ⟨m + 1, _, by omega, by go_num, (hrow.set (m * 2) (.int .i64 (at0 tn m))).set (m * 2 + 1) (.int .i64 (at0 tf m)), told2_succ htold, (hown2.setCell (by show _ ≠ w1.heap.size; omega) _).setCell (by show _ ≠ w1.heap.size; omega) _, ((hB2.setCell (by show _ ≤ w1.heap.size; omega) _).setCell (by show _ ≤ w1.heap.size; omega) _).drew⟩
            case measure => simp [intOf]; omega
          · have hmm : m = tf.length := by omega
            subst hmm
            obtain ⟨cs, hbuild, h779, h782, h787, hsz⟩ := node_cells3 w.heap.size r _ (some ⟨w1.heap.size, 0, none⟩) tf.length tf.length rfl
            have hsb := hB.size
            have hlt2 := hrow.lt
            go_wp2_with (first
              | (guard_target = wpList _ _ _ (⟨_, Op.build 48 _, _, _, _, _⟩ :: _) _ _; refine wpList_build_three rfl _ _ _ _ _ _ _ rfl _ _ _ rfl rfl rfl cs (hbuild _) ?_)
              | go_in)
            go_ret3
            exact ⟨_, _, f, rfl, hown2.alloc _, hrow.alloc _, told_take htold, cell_new _ cs 48 779 h779, cell_new _ cs 48 782 h782, cell_new _ cs 48 787 h787, frozen_new _ cs 48 779, by omega, by omega, hB2.alloc hB2.size _⟩
  · go_enter Yba.func13, Yba.ntmps13
    go_wp2
    go_loopw [15] (fun i wr => ∃ m : Nat, m ≤ ks.length ∧ i = .int .i64 m ∧ wr.ownsMap Yba.prog 3 (plainElem Yba.prog 3) w.heap.size m (mapN .i64 ks vs m) ∧ Below w.heap.size w wr) (fun i _ => ks.length - (intOf i).toNat)
    case atStart => exact ⟨0, Nat.zero_le _, rfl, World.ownsMap_made _ _ _ _, (Below.refl _ _).alloc (Nat.le_refl _) _⟩
    case round =>
      obtain ⟨m, hm, rfl, hown, hB⟩ := hrel
      by_cases hm1 : m < ks.length
      · rcases hk with hk | ⟨b, o, rfl, hb, hc⟩
        · omega
        rcases hv with hv | ⟨bv, ov, rfl, hbv, hcv⟩
        · omega
        have hx := (hB.cell (p := ⟨b, o + m, none⟩) hb).trans (hc m (by omega))
        have hy := (hB.cell (p := ⟨bv, ov + m, none⟩) hbv).trans (hcv m (by omega))
        obtain ⟨w1, hput, hown1, hg1⟩ := put_mapN Yba.underlying43 Yba.underlying3 hown.drew (by omega) (wf_at0 wk m) (wf_at0 wv m)
        go_wp2
        go_region
        all_goals go_wp2
        go_roundw
        case rel => exact ⟨m + 1, by omega, by go_num, hown1, (hB.drew).grown hg1 hB.size (fun j hj => by cases hj; exact Nat.le_refl _)⟩
        case measure => simp [intOf]; omega
      · have hmm : m = ks.length := by omega
        subst hmm
        rename World => w1
        have hBlt := hown.lt
        go_wp2_with (first
          | (at_make; refine wpList_make_two rfl _ _ rfl tn.length rfl rfl (by omega) ?_)
          | go_in)
        go_loopw [18] (fun i wx => ∃ (m : Nat) (f : Nat → Value), m ≤ tn.length ∧ i = .int .i64 m ∧ wx.rowIs w1.heap.size 59 (tn.length * 2) f ∧ Told2 tn tf f m ∧
            wx.ownsMap Yba.prog 3 (plainElem Yba.prog 3) w.heap.size ks.length (mapN .i64 ks vs ks.length) ∧ Below w.heap.size w wx) (fun i _ => tn.length - (intOf i).toNat)
        case atStart => exact ⟨0, _, Nat.zero_le _, rfl, rowIs_new w1 _ 59 _ (size_madeCells _ _), told2_zero _ _ _, hown.alloc _, hB.alloc hB.size _⟩
        case round =>
          obtain ⟨m, f, hm2, rfl, hrow, htold, hown2, hB2⟩ := hrel
          by_cases hm3 : m < tn.length
          · rcases hn with hn | ⟨b, o, rfl, hb, hc⟩
            · omega
            rcases hf with hf | ⟨bv, ov, rfl, hbv, hcv⟩
            · omega
            have hx := (hB2.cell (p := ⟨b, o + m, none⟩) hb).trans (hc m (by omega))
            have hy := (hB2.cell (p := ⟨bv, ov + m, none⟩) hbv).trans (hcv m (by omega))
            have q0 := hrow.cell (i := m * 2) (by omega)
            have q1 := hrow.cell (i := m * 2 + 1) (by omega)
            have z0 := hrow.frozen (m * 2)
            have z1 := hrow.frozen (m * 2 + 1)
            have hsb := hB.size
            go_wp2
            go_region
            all_goals go_wp2
            go_roundw
            case rel => exact ⟨m + 1, _, by omega, by go_num, (hrow.set (m * 2) (.int .i64 (at0 tn m))).set (m * 2 + 1) (.int .i64 (at0 tf m)), told2_succ htold, (hown2.setCell (by show _ ≠ w1.heap.size; omega) _).setCell (by show _ ≠ w1.heap.size; omega) _, ((hB2.setCell (by show _ ≤ w1.heap.size; omega) _).setCell (by show _ ≤ w1.heap.size; omega) _).drew⟩
            case measure => simp [intOf]; omega
          · have hmm : m = tn.length := by omega
            subst hmm
            obtain ⟨cs, hbuild, h779, h782, h787, hsz⟩ := node_cells3 w.heap.size r _ (some ⟨w1.heap.size, 0, none⟩) tn.length tn.length rfl
            have hsb := hB.size
            have hlt2 := hrow.lt
            go_wp2_with (first
              | (guard_target = wpList _ _ _ (⟨_, Op.build 48 _, _, _, _, _⟩ :: _) _ _; refine wpList_build_three rfl _ _ _ _ _ _ _ rfl _ _ _ rfl rfl rfl cs (hbuild _) ?_)
              | go_in)
            go_ret3
            exact ⟨_, _, f, rfl, hown2.alloc _, hrow.alloc _, told_take htold, cell_new _ cs 48 779 h779, cell_new _ cs 48 782 h782, cell_new _ cs 48 787 h787, frozen_new _ cs 48 779, by omega, by omega, hB2.alloc hB2.size _⟩

end Go.Proofs.Ybulkbtko

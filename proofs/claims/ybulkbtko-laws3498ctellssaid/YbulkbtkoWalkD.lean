import Derived.Test.YbulkbtkoWalkC
namespace Go.Proofs.Ybulkbtko
open Go.RowKit Go.Maps

theorem put_mapN {q : IntKind} {ks vs : List Int} {w : World} {b n : Nat} {t e : TypeId} (ht : Yba.prog.underlying t = some (.map 3 e)) (he : Yba.prog.underlying e = some (.int q)) (h : w.ownsMap Yba.prog 3 (plainElem Yba.prog e) b n (mapN q ks vs n)) (hn : n < 1024)
    (wk : (Lit.int .i64 (at0 ks n)).wf = true) (wv : (Lit.int q (at0 vs n)).wf = true) :
    ∃ w', (Instr.mapUpdate t (.map (some b)) (.int .i64 (at0 ks n)) (.int q (at0 vs n))).run Yba.prog w = .ok () w' ∧ w'.ownsMap Yba.prog 3 (plainElem Yba.prog e) b (n + 1) (mapN q ks vs (n + 1)) ∧ w.grownBy w' (some b) :=
  h.update law3 ht (by unfold maxLen; omega) (keyOf_int_mk Yba.underlying3 wk) (plainElem_int he wv)

theorem cell_new (w : World) (cs : Array Value) (t : TypeId) (i : Nat) {v : Value} (h : cs[i]? = some v) : (w.alloc (.cells cs t)).cell? ⟨w.heap.size, i, none⟩ = some v := by
  go_simp

set_option maxHeartbeats 400000 in
theorem build_any (ak av : Option Addr) (ck cv : Nat) (ks vs : List Int) (s : Int) (w : World) (hk : Row .i64 w ak ks) (hv : Row .u64 w av vs) (lk : ks.length ≤ 1024) (lv : vs.length ≤ 1024) (n : Nat) (hn : IsMin ks.length vs.length n)
    (wk : ∀ n ∈ ks, (Lit.int .i64 n).wf = true) (wv : ∀ n ∈ vs, (Lit.int .u64 n).wf = true) :
    Calls Yba.prog 8 #[.slice ak ks.length ck, .slice av vs.length cv, .int .i64 s] w fun e w' => ∃ nb, e = .returned (.pointer (some ⟨nb, 0, none⟩)) ∧ w'.ownsMap Yba.prog 3 (plainElem Yba.prog 27) w.heap.size n (mapN .u64 ks vs n) ∧
      w'.cell? ⟨nb, 783, none⟩ = some (.map (some w.heap.size)) ∧ w'.cell? ⟨nb, 784, none⟩ = some (.int .i64 s) ∧ Below w.heap.size w w' := by
  have hmm := @run_makeMap Yba.prog
  rcases hn with ⟨hlt, rfl⟩ | ⟨hlt, rfl⟩
  · go_enter Yba.func8, Yba.ntmps8
    go_wp2
    go_loopw [9] (fun i wr => ∃ m : Nat, m ≤ vs.length ∧ i = .int .i64 m ∧ wr.ownsMap Yba.prog 3 (plainElem Yba.prog 27) w.heap.size m (mapN .u64 ks vs m) ∧ Below w.heap.size w wr) (fun i _ => vs.length - (intOf i).toNat)
    case atStart => exact ⟨0, Nat.zero_le _, rfl, World.ownsMap_made _ _ _ _, (Below.refl _ _).alloc (Nat.le_refl _) _⟩
    case round =>
      obtain ⟨m, hm, rfl, hown, hB⟩ := hrel
      by_cases hm1 : m < vs.length
      · rcases hk with hk | ⟨b, o, rfl, hb, hc⟩
        · omega
        rcases hv with hv | ⟨bv, ov, rfl, hbv, hcv⟩
        · omega
        have hx := (hB.cell (p := ⟨b, o + m, none⟩) hb).trans (hc m (by omega))
        have hy := (hB.cell (p := ⟨bv, ov + m, none⟩) hbv).trans (hcv m (by omega))
        obtain ⟨w1, hput, hown1, hg1⟩ := put_mapN Yba.underlying44 Yba.underlying27 hown.drew (by omega) (wf_at0 wk m) (wf_at0 wv m)
        go_wp2
        go_region
        all_goals go_wp2
        go_roundw
        case rel => exact ⟨m + 1, by omega, by go_num, hown1, (hB.drew).grown hg1 hB.size (fun j hj => by cases hj; exact Nat.le_refl _)⟩
        case measure => simp [intOf]; omega
      · have hmm : m = vs.length := by omega
        subst hmm
        obtain ⟨cs, hbuild, h783, h784, hsz⟩ := node_cells w.heap.size s
        go_wp2_with (first
          | (guard_target = wpList _ _ _ (⟨_, Op.build 48 _, _, _, _, _⟩ :: _) _ _; refine wpList_build_two rfl _ _ _ _ _ rfl _ _ rfl rfl cs (hbuild _) ?_)
          | go_in)
        go_ret
        exact ⟨wr.heap.size, rfl, hown.alloc _, cell_new wr cs 48 783 h783, cell_new wr cs 48 784 h784, hB.alloc hB.size _⟩
  · go_enter Yba.func8, Yba.ntmps8
    go_wp2
    go_loopw [9] (fun i wr => ∃ m : Nat, m ≤ ks.length ∧ i = .int .i64 m ∧ wr.ownsMap Yba.prog 3 (plainElem Yba.prog 27) w.heap.size m (mapN .u64 ks vs m) ∧ Below w.heap.size w wr) (fun i _ => ks.length - (intOf i).toNat)
    case atStart => exact ⟨0, Nat.zero_le _, rfl, World.ownsMap_made _ _ _ _, (Below.refl _ _).alloc (Nat.le_refl _) _⟩
    case round =>
      obtain ⟨m, hm, rfl, hown, hB⟩ := hrel
      by_cases hm1 : m < ks.length
      · rcases hk with hk | ⟨b, o, rfl, hb, hc⟩
        · omega
        rcases hv with hv | ⟨bv, ov, rfl, hbv, hcv⟩
        · omega
        have hx := (hB.cell (p := ⟨b, o + m, none⟩) hb).trans (hc m (by omega))
        have hy := (hB.cell (p := ⟨bv, ov + m, none⟩) hbv).trans (hcv m (by omega))
        obtain ⟨w1, hput, hown1, hg1⟩ := put_mapN Yba.underlying44 Yba.underlying27 hown.drew (by omega) (wf_at0 wk m) (wf_at0 wv m)
        go_wp2
        go_region
        all_goals go_wp2
        go_roundw
        case rel => exact ⟨m + 1, by omega, by go_num, hown1, (hB.drew).grown hg1 hB.size (fun j hj => by cases hj; exact Nat.le_refl _)⟩
        case measure => simp [intOf]; omega
      · have hmm : m = ks.length := by omega
        subst hmm
        obtain ⟨cs, hbuild, h783, h784, hsz⟩ := node_cells w.heap.size s
        go_wp2_with (first
          | (guard_target = wpList _ _ _ (⟨_, Op.build 48 _, _, _, _, _⟩ :: _) _ _; refine wpList_build_two rfl _ _ _ _ _ rfl _ _ rfl rfl cs (hbuild _) ?_)
          | go_in)
        go_ret
        exact ⟨wr.heap.size, rfl, hown.alloc _, cell_new wr cs 48 783 h783, cell_new wr cs 48 784 h784, hB.alloc hB.size _⟩

end Go.Proofs.Ybulkbtko

import Derived.Test.YbulkbtkoModelWalk
namespace Go.Proofs.Ybulkbtko
open Go.RowKit Go.Maps

theorem takes_from (nb mb m n : Nat) (ks vs : List Int) (s j l : Int) (w : World) (h : w.ownsMap Yba.prog 3 (plainElem Yba.prog 27) mb m (mapN .u64 ks vs n)) (wj : (Lit.int .i64 j).wf = true)
    (c0 : w.cell? ⟨nb, 783, none⟩ = some (.map (some mb))) (c1 : w.cell? ⟨nb, 784, none⟩ = some (.int .i64 s)) :
    Calls Yba.prog 12 #[.pointer (some ⟨nb, 0, none⟩), .int .i64 j, .int .u64 l] w fun e w' => e = .returned (.bool (okOf ks vs n s j && (lifeOf ks vs n j == l))) ∧ w' = w := by
  have h9 := held_any nb _ _ n ks vs s j _ h wj c0 c1
  generalize okOf ks vs n s j = ok at h9 ⊢
  generalize lifeOf ks vs n j = life at h9 ⊢
  have H9 := hide h9
  clear h9
  cases ok
  · go_enter Yba.func12, Yba.ntmps12
    go_wp2_with fail
    refine (unhide H9).mono ?_
    rintro e w' ⟨rfl, rfl⟩
    go_wp2_with fail
    go_ret
    exact ⟨rfl, rfl⟩
  · go_enter Yba.func12, Yba.ntmps12
    go_wp2_with fail
    refine (unhide H9).mono ?_
    rintro e w' ⟨rfl, rfl⟩
    go_wp2_with fail
    go_ret
    exact ⟨rfl, rfl⟩

set_option maxHeartbeats 400000 in
theorem takes_walk (ak av : Option Addr) (ck cv : Nat) (ks vs : List Int) (s j p l : Int) (um : Bool) (w : World) (hk : Row .i64 w ak ks) (hv : Row .u64 w av vs) (lk : ks.length ≤ 1024) (lv : vs.length ≤ 1024)
    (wk : ∀ n ∈ ks, (Lit.int .i64 n).wf = true) (wv : ∀ n ∈ vs, (Lit.int .u64 n).wf = true) (wj : (Lit.int .i64 j).wf = true) (p0 : 0 ≤ p) (p1 : p ≤ 255) :
    Calls Yba.prog 4 #[.slice ak ks.length ck, .slice av vs.length cv, .int .i64 s, .int .i64 j, .int .u8 p, .int .u64 l, .bool um] w fun e w' => e = .returned (.bool true) ∧ Below w.heap.size w w' := by
  obtain ⟨n, hn⟩ : ∃ n, IsMin ks.length vs.length n := ⟨_, isMin_min _ _⟩
  have hnl := hn.le
  go_enter Yba.func4, Yba.ntmps4
  go_wp2_with fail
  refine (pick_any ak av ck cv ks vs j p _ hk lk lv wk wj p0 p1).mono ?_
  rintro e w' ⟨x, rfl, wx, rfl⟩
  go_wp2_with fail
  refine (build_any ak av ck cv ks vs s _ hk hv lk lv n hn wk wv).mono ?_
  rintro e w1 ⟨nb, rfl, hown, c0, c1, hB⟩
  have hk1 := hk.later hB
  have hv1 := hv.later hB
  go_wp2_with fail
  refine (model_any ak av ck cv ks vs s x _ hk1 hv1 lk lv n hn).mono ?_
  rintro e w' ⟨rfl, rfl⟩
  cases um
  all_goals
    go_wp2_with fail
    refine (takes_from nb _ _ n ks vs s x _ _ hown wx c0 c1).mono ?_
    rintro e w' ⟨rfl, rfl⟩
    generalize okOf ks vs n s x = ok
    generalize lifeOf ks vs n x = life
    cases ok
    · go_wp2_with fail
      go_ret
      refine ⟨?_, hB⟩
      first | rfl | (simp; done)
    · go_wp2_with fail
      go_ret
      refine ⟨?_, hB⟩
      first | rfl | (simp; done)

set_option maxHeartbeats 400000 in
theorem takes_long (ak av : Option Addr) (lenk lenv ck cv : Nat) (s j p l : Int) (um : Bool) (w : World) (h : 1024 < lenk ∨ 1024 < lenv) (hk : lenk ≤ maxLen) (hv : lenv ≤ maxLen) :
    Calls Yba.prog 4 #[.slice ak lenk ck, .slice av lenv cv, .int .i64 s, .int .i64 j, .int .u8 p, .int .u64 l, .bool um] w fun e w' => e = .returned (.bool true) ∧ Below w.heap.size w w' := by
  unfold maxLen at hk hv
  by_cases h1 : 1024 < lenk
  · go_enter Yba.func4, Yba.ntmps4
    go_wp2
    go_ret
    exact ⟨rfl, Below.refl _ _⟩
  · have h2 : 1024 < lenv := by omega
    go_enter Yba.func4, Yba.ntmps4
    go_wp2
    go_ret
    exact ⟨rfl, Below.refl _ _⟩

end Go.Proofs.Ybulkbtko

import Derived.Test.YbulkbtkoWalkD
import Derived.WalkSmall
namespace Go.Proofs.Ybulkbtko
open Go.RowKit Go.Maps

theorem len_mapN {q : IntKind} {t e : TypeId} {w : World} {b m n : Nat} {ks vs : List Int} (ht : Yba.prog.underlying t = some (.map 3 e)) (h : w.ownsMap Yba.prog 3 (plainElem Yba.prog e) b m (mapN q ks vs n)) (ty : TypeId) :
    (Builtin.len_ #[t] ty #[.map (some b)]).run Yba.prog w = .ok (.int .i64 (dcnt ks vs n)) w := by
  rw [h.len ht ty, size_mapN]

set_option maxHeartbeats 400000 in
theorem model_walk (ak av : Option Addr) (ck cv : Nat) (ks vs : List Int) (s j p : Int) (w : World) (hk : Row .i64 w ak ks) (hv : Row .u64 w av vs) (lk : ks.length ≤ 1024) (lv : vs.length ≤ 1024)
    (wk : ∀ n ∈ ks, (Lit.int .i64 n).wf = true) (wv : ∀ n ∈ vs, (Lit.int .u64 n).wf = true) (wj : (Lit.int .i64 j).wf = true) (p0 : 0 ≤ p) (p1 : p ≤ 255) :
    Calls Yba.prog 3 #[.slice ak ks.length ck, .slice av vs.length cv, .int .i64 s, .int .i64 j, .int .u8 p] w fun e w' => e = .returned (.bool true) ∧ Below w.heap.size w w' := by
  obtain ⟨n, hn⟩ : ∃ n, IsMin ks.length vs.length n := ⟨_, isMin_min _ _⟩
  have hnl := hn.le
  have hd := dcnt_le ks vs n
  go_enter Yba.func3, Yba.ntmps3
  go_wp2_with fail
  refine (pick_any ak av ck cv ks vs j p _ hk lk lv wk wj p0 p1).mono ?_
  rintro e w' ⟨x, rfl, wx, rfl⟩
  go_wp2_with fail
  refine (build_any ak av ck cv ks vs s _ hk hv lk lv n hn wk wv).mono ?_
  rintro e w1 ⟨nb, rfl, hown, c0, c1, hB⟩
  have hk1 := hk.later hB
  have hv1 := hv.later hB
  go_wp2_with fail
  refine (held_any nb _ _ n ks vs s x _ hown wx c0 c1).mono ?_
  rintro e w' ⟨rfl, rfl⟩
  go_wp2_with fail
  refine (model_any ak av ck cv ks vs s x _ hk1 hv1 lk lv n hn).mono ?_
  rintro e w' ⟨rfl, rfl⟩
  have hlen := len_mapN Yba.underlying44 hown
  go_wp2_with fail
  refine (count_any ak av ck cv ks vs _ hk1 lk lv n hn).mono ?_
  rintro e w' ⟨rfl, d, rfl⟩
  go_wp2_with fail
  go_ret
  exact ⟨rfl, below_drewN hB d⟩

set_option maxHeartbeats 400000 in
theorem model_long (ak av : Option Addr) (lenk lenv ck cv : Nat) (s j p : Int) (w : World) (h : 1024 < lenk ∨ 1024 < lenv) (hk : lenk ≤ maxLen) (hv : lenv ≤ maxLen) :
    Calls Yba.prog 3 #[.slice ak lenk ck, .slice av lenv cv, .int .i64 s, .int .i64 j, .int .u8 p] w fun e w' => e = .returned (.bool true) ∧ Below w.heap.size w w' := by
  unfold maxLen at hk hv
  by_cases h1 : 1024 < lenk
  · go_enter Yba.func3, Yba.ntmps3
    go_wp2
    go_ret
    exact ⟨rfl, Below.refl _ _⟩
  · have h2 : 1024 < lenv := by omega
    go_enter Yba.func3, Yba.ntmps3
    go_wp2
    go_ret
    exact ⟨rfl, Below.refl _ _⟩

end Go.Proofs.Ybulkbtko

import Derived.Test.YbulkbtkoWalkD
namespace Go.Proofs.Ybulkbtko
open Go.RowKit Go.Maps

def valOf (ks vs : List Int) (n : Nat) (j : Int) : Int := (lastV ks vs n j).getD 0
def hasOf (ks vs : List Int) (n : Nat) (j : Int) : Bool := (lastV ks vs n j).isSome

theorem val_hit (ks vs : List Int) (n : Nat) (j : Int) (h : at0 ks n = j) : valOf ks vs (n + 1) j = at0 vs n ∧ hasOf ks vs (n + 1) j = true := by
  simp [valOf, hasOf, lastV, h]
theorem val_miss (ks vs : List Int) (n : Nat) (j : Int) (h : at0 ks n ≠ j) : valOf ks vs (n + 1) j = valOf ks vs n j ∧ hasOf ks vs (n + 1) j = hasOf ks vs n j := by
  simp [valOf, hasOf, lastV, h]
theorem ret_ib {a a' : Int} {b b' : Bool} (h1 : a' = a) (h2 : b' = b) : Ending.returned (.tuple #[.int .i64 a, .bool b]) = .returned (.tuple #[.int .i64 a', .bool b']) := by rw [h1, h2]

set_option maxHeartbeats 400000 in
theorem last_any (ak av : Option Addr) (ck cv : Nat) (ks vs : List Int) (m : Nat) (j : Int) (w : World) (hk : Row .i64 w ak ks) (hv : Row .i64 w av vs) (lk : m ≤ ks.length) (lv : m ≤ vs.length) (hm : m ≤ 1024) :
    Calls Yba.prog 14 #[.slice ak ks.length ck, .slice av vs.length cv, .int .i64 m, .int .i64 j] w fun e w' => e = .returned (.tuple #[.int .i64 (valOf ks vs m j), .bool (hasOf ks vs m j)]) ∧ w' = w := by
  go_enter Yba.func14, Yba.ntmps14
  go_wp2
  go_loop [10, 11, 12] (fun v u i => ∃ n : Nat, n ≤ m ∧ i = .int .i64 n ∧ v = .int .i64 (valOf ks vs n j) ∧ u = .bool (hasOf ks vs n j)) (fun _ _ i => m - (intOf i).toNat)
  case atStart => exact ⟨0, Nat.zero_le _, rfl, rfl, rfl⟩
  case round =>
    obtain ⟨n, hn, rfl, rfl, rfl⟩ := hrel
    by_cases hlt : n < m
    · rcases hk with hk | ⟨b, o, rfl, hb, hc⟩
      · omega
      rcases hv with hv | ⟨bv, ov, rfl, hbv, hcv⟩
      · omega
      have hx := hc n (by omega)
      have hy := hcv n (by omega)
      by_cases he : at0 ks n = j
      · have heb : (at0 ks n == j) = true := beq_iff_eq.2 he
        have hz := hide (val_hit ks vs n j he)
        clear he
        go_wp2
        go_round
        case rel => exact ⟨n + 1, by omega, by go_num, by rw [(unhide hz).1], by rw [(unhide hz).2]⟩
        case measure => simp [intOf]; omega
      · have heb : (at0 ks n == j) = false := beq_eq_false_iff_ne.2 he
        have hz := hide (val_miss ks vs n j he)
        clear he
        go_wp2
        go_round
        case rel => exact ⟨n + 1, by omega, by go_num, by rw [(unhide hz).1], by rw [(unhide hz).2]⟩
        case measure => simp [intOf]; omega
    · have hmm : n = m := by omega
      subst hmm
      go_wp2
      go_ret2
      exact ⟨rfl, rfl⟩

def recentB (f : Bool) (r v : Int) : Bool := f && decide (wrap64 (r - v) ≤ 120)

theorem heard_any (nb mb : Nat) (r v j : Int) (f : Bool) (w : World) (hl : (Instr.lookup 43 (.map (some mb)) (.int .i64 j) true).run Yba.prog w = .ok (.tuple #[.int .i64 v, .bool f]) w)
    (c0 : w.cell? ⟨nb, 782, none⟩ = some (.map (some mb))) (c1 : w.cell? ⟨nb, 787, none⟩ = some (.int .i64 r)) :
    Calls Yba.prog 16 #[.pointer (some ⟨nb, 0, none⟩), .int .i64 j] w fun e w' => e = .returned (.bool (recentB f r v)) ∧ w' = w := by
  cases f
  · go_enter Yba.func16, Yba.ntmps16
    go_wp2
    go_ret
    exact ⟨rfl, rfl⟩
  · go_enter Yba.func16, Yba.ntmps16
    go_wp2
    go_ret
    exact ⟨rfl, rfl⟩

end Go.Proofs.Ybulkbtko

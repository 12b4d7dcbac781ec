import Derived.Test.YbulkbtkoBase
namespace Go.Proofs.Ybulkbtko
open Go.RowKit Go.Maps

theorem mod_bd (p : Int) (n : Nat) (h : 0 < n) : 0 ≤ p / 2 % (n : Int) ∧ p / 2 % (n : Int) < (n : Int) :=
  ⟨Int.emod_nonneg _ (by omega), Int.emod_lt_of_pos _ (by omega)⟩

set_option maxHeartbeats 400000 in
theorem pick_any (ak av : Option Addr) (ck cv : Nat) (ks vs : List Int) (j p : Int) (w : World) (hk : Row .i64 w ak ks) (lk : ks.length ≤ 1024) (lv : vs.length ≤ 1024)
    (wk : ∀ n ∈ ks, (Lit.int .i64 n).wf = true) (wj : (Lit.int .i64 j).wf = true) (p0 : 0 ≤ p) (p1 : p ≤ 255) :
    Calls Yba.prog 7 #[.slice ak ks.length ck, .slice av vs.length cv, .int .i64 j, .int .u8 p] w fun e w' => ∃ x : Int, e = .returned (.int .i64 x) ∧ (Lit.int .i64 x).wf = true ∧ w' = w := by
  by_cases hlt : vs.length < ks.length
  · by_cases hp : p % 2 = 0
    · by_cases h0 : 0 < vs.length
      · rcases hk with hk | ⟨b, o, rfl, hb, hc⟩
        · omega
        obtain ⟨m0, m1⟩ := mod_bd p vs.length h0
        have hx := hc ((p / 2) % vs.length).toNat (by omega)
        go_enter Yba.func7, Yba.ntmps7
        go_wp2
        go_ret
        exact ⟨_, rfl, wf_at0 wk _, rfl⟩
      · go_enter Yba.func7, Yba.ntmps7
        go_wp2
        go_ret
        exact ⟨j, rfl, wj, rfl⟩
    · go_enter Yba.func7, Yba.ntmps7
      go_wp2
      go_ret
      exact ⟨j, rfl, wj, rfl⟩
  · by_cases hp : p % 2 = 0
    · by_cases h0 : 0 < ks.length
      · rcases hk with hk | ⟨b, o, rfl, hb, hc⟩
        · omega
        obtain ⟨m0, m1⟩ := mod_bd p ks.length h0
        have hx := hc ((p / 2) % ks.length).toNat (by omega)
        go_enter Yba.func7, Yba.ntmps7
        go_wp2
        go_ret
        exact ⟨_, rfl, wf_at0 wk _, rfl⟩
      · go_enter Yba.func7, Yba.ntmps7
        go_wp2
        go_ret
        exact ⟨j, rfl, wj, rfl⟩
    · go_enter Yba.func7, Yba.ntmps7
      go_wp2
      go_ret
      exact ⟨j, rfl, wj, rfl⟩

theorem ret_ub {a a' : Int} {b b' : Bool} (h1 : a' = a) (h2 : b' = b) : Ending.returned (.tuple #[.int .u64 a, .bool b]) = .returned (.tuple #[.int .u64 a', .bool b']) := by rw [h1, h2]

/-- What heldLife and the model answer. -/
def lifeOf (ks vs : List Int) (n : Nat) (j : Int) : Int := (lastV ks vs n j).getD 0
def okOf (ks vs : List Int) (n : Nat) (started j : Int) : Bool := (lastV ks vs n j).isSome || decide (j < started)

set_option maxHeartbeats 400000 in
theorem model_any (ak av : Option Addr) (ck cv : Nat) (ks vs : List Int) (s j : Int) (w : World) (hk : Row .i64 w ak ks) (hv : Row .u64 w av vs) (lk : ks.length ≤ 1024) (lv : vs.length ≤ 1024) (n : Nat) (hn : IsMin ks.length vs.length n) :
    Calls Yba.prog 10 #[.slice ak ks.length ck, .slice av vs.length cv, .int .i64 s, .int .i64 j] w fun e w' => e = .returned (.tuple #[.int .u64 (lifeOf ks vs n j), .bool (okOf ks vs n s j)]) ∧ w' = w := by
  have key : ∀ m : Nat, m < n → (∀ l, m < l → l < n → at0 ks l ≠ j) → at0 ks m = j → lifeOf ks vs n j = at0 vs m ∧ okOf ks vs n s j = true := by
    intro m hm hl he
    have := lastV_hit ks vs j m he n hm hl
    simp [lifeOf, okOf, this]
  have miss : (∀ l, l < n → at0 ks l ≠ j) → lifeOf ks vs n j = 0 ∧ okOf ks vs n s j = decide (j < s) := by
    intro hl
    have := lastV_none ks vs j n hl
    simp [lifeOf, okOf, this]
  have Hkey := hide key
  have Hmiss := hide miss
  clear key miss
  rcases hn with ⟨hlt, rfl⟩ | ⟨hlt, rfl⟩
  · go_enter Yba.func10, Yba.ntmps10
    go_wp2
    go_loop [11] (fun i => ∃ m : Nat, m ≤ vs.length ∧ i = .int .i64 ((m : Int) - 1) ∧ Hid (∀ l, m ≤ l → l < vs.length → at0 ks l ≠ j)) (fun i => (intOf i + 1).toNat)
    case atStart => exact ⟨vs.length, Nat.le_refl _, rfl, hide fun l a b => absurd b (by omega)⟩
    case round =>
      obtain ⟨m, hm, rfl, hl⟩ := hrel
      rcases m with _ | m
      · have hz := hide (unhide Hmiss fun l b => unhide hl l (by omega) b)
        by_cases hjs : j < s
        · go_wp2
          go_ret2
          exact ⟨ret_ub (unhide hz).1 ((unhide hz).2.trans (decide_eq_true hjs)), rfl⟩
        · go_wp2
          go_ret2
          exact ⟨ret_ub (unhide hz).1 ((unhide hz).2.trans (decide_eq_false (by omega))), rfl⟩
      · rcases hk with hk | ⟨b, o, rfl, hb, hc⟩
        · omega
        rcases hv with hv | ⟨bv, ov, rfl, hbv, hcv⟩
        · omega
        have hx := hc m (by omega)
        have hy := hcv m (by omega)
        by_cases he : at0 ks m = j
        · have hz := hide (unhide Hkey m (by omega) (fun l a b => unhide hl l (by omega) b) he)
          have heb : (at0 ks m == j) = true := beq_iff_eq.2 he
          have he := hide he
          go_wp2
          go_ret2
          exact ⟨ret_ub (unhide hz).1 (unhide hz).2, rfl⟩
        · have heb : (at0 ks m == j) = false := beq_eq_false_iff_ne.2 he
          go_wp2
          go_round
          case rel => exact ⟨m, by omega, by go_num, hide fun l a b => by
            rcases Nat.lt_or_ge m l with c | c
            · exact unhide hl l (by omega) b
            · have : l = m := by omega
              subst this; exact he⟩
          case measure => simp [intOf]
  · go_enter Yba.func10, Yba.ntmps10
    go_wp2
    go_loop [11] (fun i => ∃ m : Nat, m ≤ ks.length ∧ i = .int .i64 ((m : Int) - 1) ∧ Hid (∀ l, m ≤ l → l < ks.length → at0 ks l ≠ j)) (fun i => (intOf i + 1).toNat)
    case atStart => exact ⟨ks.length, Nat.le_refl _, rfl, hide fun l a b => absurd b (by omega)⟩
    case round =>
      obtain ⟨m, hm, rfl, hl⟩ := hrel
      rcases m with _ | m
      · have hz := hide (unhide Hmiss fun l b => unhide hl l (by omega) b)
        by_cases hjs : j < s
        · go_wp2
          go_ret2
          exact ⟨ret_ub (unhide hz).1 ((unhide hz).2.trans (decide_eq_true hjs)), rfl⟩
        · go_wp2
          go_ret2
          exact ⟨ret_ub (unhide hz).1 ((unhide hz).2.trans (decide_eq_false (by omega))), rfl⟩
      · rcases hk with hk | ⟨b, o, rfl, hb, hc⟩
        · omega
        rcases hv with hv | ⟨bv, ov, rfl, hbv, hcv⟩
        · omega
        have hx := hc m (by omega)
        have hy := hcv m (by omega)
        by_cases he : at0 ks m = j
        · have hz := hide (unhide Hkey m (by omega) (fun l a b => unhide hl l (by omega) b) he)
          have heb : (at0 ks m == j) = true := beq_iff_eq.2 he
          have he := hide he
          go_wp2
          go_ret2
          exact ⟨ret_ub (unhide hz).1 (unhide hz).2, rfl⟩
        · have heb : (at0 ks m == j) = false := beq_eq_false_iff_ne.2 he
          go_wp2
          go_round
          case rel => exact ⟨m, by omega, by go_num, hide fun l a b => by
            rcases Nat.lt_or_ge m l with c | c
            · exact unhide hl l (by omega) b
            · have : l = m := by omega
              subst this; exact he⟩
          case measure => simp [intOf]

end Go.Proofs.Ybulkbtko

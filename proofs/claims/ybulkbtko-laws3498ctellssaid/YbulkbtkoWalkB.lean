import Derived.Test.YbulkbtkoWalkA
namespace Go.Proofs.Ybulkbtko
open Go.RowKit Go.Maps

set_option maxHeartbeats 400000 in
theorem count_any (ak av : Option Addr) (ck cv : Nat) (ks vs : List Int) (w : World) (hk : Row .i64 w ak ks) (lk : ks.length ≤ 1024) (lv : vs.length ≤ 1024) (n : Nat) (hn : IsMin ks.length vs.length n) :
    Calls Yba.prog 11 #[.slice ak ks.length ck, .slice av vs.length cv] w fun e w' => e = .returned (.int .i64 (dcnt ks vs n)) ∧ ∃ d, w' = w.drewN d := by
  rcases hn with ⟨hlt, rfl⟩ | ⟨hlt, rfl⟩
  · go_enter Yba.func11, Yba.ntmps11
    go_wp2
    go_loopw [6, 7] (fun c i wr => ∃ m : Nat, m ≤ vs.length ∧ i = .int .i64 m ∧ c = .int .i64 (dcnt ks vs m) ∧ ∃ d, wr = w.drewN d) (fun _ i _ => vs.length - (intOf i).toNat)
    case atStart => exact ⟨0, Nat.zero_le _, rfl, rfl, 0, rfl⟩
    case round =>
      obtain ⟨m, hm, rfl, rfl, d, rfl⟩ := hrel
      have hd := dcnt_le ks vs m
      by_cases hm1 : m < vs.length
      · rcases hk with hk | ⟨b, o, rfl, hb, hc⟩
        · omega
        go_wp2
        go_loopw [8, 9] (fun u q wr => ∃ l : Nat, l ≤ m ∧ q = .int .i64 l ∧ u = .bool false ∧ Hid (∀ x, x < l → at0 ks x ≠ at0 ks m) ∧ ∃ d, wr = w.drewN d) (fun _ q _ => m - (intOf q).toNat)
        case atStart => exact ⟨0, Nat.zero_le _, rfl, rfl, hide fun x h => absurd h (Nat.not_lt_zero _), d, rfl⟩
        case round =>
          obtain ⟨l, hl, rfl, rfl, hno, d, rfl⟩ := hrel
          have hy := hc m (by omega)
          by_cases hl1 : l < m
          · have hx := hc l (by omega)
            by_cases he : at0 ks l = at0 ks m
            · have heb : (at0 ks l == at0 ks m) = true := beq_iff_eq.2 he
              have hz := hide (dcnt_hit ks vs m l hl1 he)
              clear he
              go_wp2
              go_quiet (fail)
              go_wp2
              go_roundw
              case rel => exact ⟨m + 1, by omega, by go_num, by rw [unhide hz], _, rfl⟩
              case measure => simp [intOf]; omega
            · have heb : (at0 ks l == at0 ks m) = false := beq_eq_false_iff_ne.2 he
              go_wp2
              go_quiet (fail)
              go_wp2
              go_roundw
              case rel => exact ⟨l + 1, by omega, by go_num, rfl, hide fun x hx => by
                rcases Nat.lt_or_ge x l with c | c
                · exact unhide hno x c
                · have : x = l := by omega
                  subst this; exact he, _, rfl⟩
              case measure => simp [intOf]; omega
          · have hz := hide (dcnt_miss ks vs m fun x hx => unhide hno x (by omega))
            go_wp2
            go_roundw
            case rel => exact ⟨m + 1, by omega, by go_num, by rw [unhide hz]; go_num, d, rfl⟩
            case measure => simp [intOf]; omega
      · have hmm : m = vs.length := by omega
        subst hmm
        go_wp2
        go_ret
        exact ⟨rfl, d, rfl⟩
  · go_enter Yba.func11, Yba.ntmps11
    go_wp2
    go_loopw [6, 7] (fun c i wr => ∃ m : Nat, m ≤ ks.length ∧ i = .int .i64 m ∧ c = .int .i64 (dcnt ks vs m) ∧ ∃ d, wr = w.drewN d) (fun _ i _ => ks.length - (intOf i).toNat)
    case atStart => exact ⟨0, Nat.zero_le _, rfl, rfl, 0, rfl⟩
    case round =>
      obtain ⟨m, hm, rfl, rfl, d, rfl⟩ := hrel
      have hd := dcnt_le ks vs m
      by_cases hm1 : m < ks.length
      · rcases hk with hk | ⟨b, o, rfl, hb, hc⟩
        · omega
        go_wp2
        go_loopw [8, 9] (fun u q wr => ∃ l : Nat, l ≤ m ∧ q = .int .i64 l ∧ u = .bool false ∧ Hid (∀ x, x < l → at0 ks x ≠ at0 ks m) ∧ ∃ d, wr = w.drewN d) (fun _ q _ => m - (intOf q).toNat)
        case atStart => exact ⟨0, Nat.zero_le _, rfl, rfl, hide fun x h => absurd h (Nat.not_lt_zero _), d, rfl⟩
        case round =>
          obtain ⟨l, hl, rfl, rfl, hno, d, rfl⟩ := hrel
          have hy := hc m (by omega)
          by_cases hl1 : l < m
          · have hx := hc l (by omega)
            by_cases he : at0 ks l = at0 ks m
            · have heb : (at0 ks l == at0 ks m) = true := beq_iff_eq.2 he
              have hz := hide (dcnt_hit ks vs m l hl1 he)
              clear he
              go_wp2
              go_quiet (fail)
              go_wp2
              go_roundw
              case rel => exact ⟨m + 1, by omega, by go_num, by rw [unhide hz], _, rfl⟩
              case measure => simp [intOf]; omega
            · have heb : (at0 ks l == at0 ks m) = false := beq_eq_false_iff_ne.2 he
              go_wp2
              go_quiet (fail)
              go_wp2
              go_roundw
              case rel => exact ⟨l + 1, by omega, by go_num, rfl, hide fun x hx => by
                rcases Nat.lt_or_ge x l with c | c
                · exact unhide hno x c
                · have : x = l := by omega
                  subst this; exact he, _, rfl⟩
              case measure => simp [intOf]; omega
          · have hz := hide (dcnt_miss ks vs m fun x hx => unhide hno x (by omega))
            go_wp2
            go_roundw
            case rel => exact ⟨m + 1, by omega, by go_num, by rw [unhide hz]; go_num, d, rfl⟩
            case measure => simp [intOf]; omega
      · have hmm : m = ks.length := by omega
        subst hmm
        go_wp2
        go_ret
        exact ⟨rfl, d, rfl⟩

end Go.Proofs.Ybulkbtko

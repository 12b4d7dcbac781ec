import Derived.Test.YbulkbtkoTellC
import Derived.Test.YbulkbtkoModelWalk
namespace Go.Proofs.Ybulkbtko
open Go.RowKit Go.Maps Go.WideAt

set_option linter.unusedVariables false

theorem look_at {w : World} {b m : Nat} {D : DataW Unit} {j x : Int} {f : Bool} (h : w.ownsMap Yba.prog 3 (plainElem Yba.prog 3) b m D) (wj : (Lit.int .i64 j).wf = true)
    (hx : D.atKey (.int .i64 j) (.lit (.int .i64 0)) = .lit (.int .i64 x)) (hf : Maps.has D (.int .i64 j) = f) :
    (Instr.lookup 43 (.map (some b)) (.int .i64 j) true).run Yba.prog w = .ok (.tuple #[.int .i64 x, .bool f]) w := by
  obtain ⟨v, ps, hrun, hv⟩ := h.look_ok law3 Yba.underlying43 (zero3 w) (plainElem_int (H := Unit) Yba.underlying3 (by decide)) (keyOf_int_mk Yba.underlying3 wj)
  rw [hx] at hv
  obtain ⟨c, rfl, hc, _⟩ := plainElem_int_inv Yba.underlying3 hv
  have hc' : x = c := by
    have := congrArg Prod.fst hc
    simpa using this
  rw [hrun, hf, hc']

theorem look_map {w : World} {b m n : Nat} {ks vs : List Int} {j : Int} {f : Bool} (h : w.ownsMap Yba.prog 3 (plainElem Yba.prog 3) b m (mapN .i64 ks vs n)) (wj : (Lit.int .i64 j).wf = true) (hf : hasOf ks vs n j = f) :
    (Instr.lookup 43 (.map (some b)) (.int .i64 j) true).run Yba.prog w = .ok (.tuple #[.int .i64 (valOf ks vs n j), .bool f]) w :=
  look_at h wj (atKey_mapN ..) (by rw [has_mapN]; exact hf)

theorem look_same {w : World} {b m n : Nat} {ks vs : List Int} {j r : Int} (h : w.ownsMap Yba.prog 3 (plainElem Yba.prog 3) b m ((mapN .i64 ks vs n).put (.int .i64 j) (.lit (.int .i64 r)))) (wj : (Lit.int .i64 j).wf = true) :
    (Instr.lookup 43 (.map (some b)) (.int .i64 j) true).run Yba.prog w = .ok (.tuple #[.int .i64 r, .bool true]) w :=
  look_at h wj (atKey_put_same (mapN_tidy ..).isMap (by simp [IsKeyLit]) _ _) (has_put_same (mapN_tidy ..).isMap (by simp [IsKeyLit]) _)

theorem look_other {w : World} {b m n : Nat} {ks vs : List Int} {j k r : Int} {f : Bool} (h : w.ownsMap Yba.prog 3 (plainElem Yba.prog 3) b m ((mapN .i64 ks vs n).put (.int .i64 j) (.lit (.int .i64 r)))) (wk : (Lit.int .i64 k).wf = true) (hne : k ≠ j) (hf : hasOf ks vs n k = f) :
    (Instr.lookup 43 (.map (some b)) (.int .i64 k) true).run Yba.prog w = .ok (.tuple #[.int .i64 (valOf ks vs n k), .bool f]) w :=
  look_at h wk (by rw [atKey_put_other (int_lit_ne hne)]; exact atKey_mapN ..) (by rw [has_put_other (int_lit_ne hne), has_mapN]; exact hf)

theorem len_put {w : World} {b m n : Nat} {ks vs : List Int} {j r : Int} {f : Bool} (h : w.ownsMap Yba.prog 3 (plainElem Yba.prog 3) b m ((mapN .i64 ks vs n).put (.int .i64 j) (.lit (.int .i64 r)))) (hf : hasOf ks vs n j = f) (ty : TypeId) :
    (Builtin.len_ #[43] ty #[.map (some b)]).run Yba.prog w = .ok (.int .i64 (if f then (dcnt ks vs n : Int) else (dcnt ks vs n : Int) + 1)) w := by
  rw [h.len Yba.underlying43 ty, size_put (mapN_tidy ..), has_mapN, size_mapN]
  unfold hasOf at hf
  rw [hf]
  cases f <;> rfl

theorem ownsMap_drewN {w : World} {b m : Nat} {D : DataW Unit} (h : w.ownsMap Yba.prog 3 (plainElem Yba.prog 3) b m D) (n : Nat) : (w.drewN n).ownsMap Yba.prog 3 (plainElem Yba.prog 3) b m D := h
theorem rowIs_drewN {w : World} {b t n : Nat} {f : Nat → Value} (h : w.rowIs b t n f) (d : Nat) : (w.drewN d).rowIs b t n f := h
theorem has_key (ks vs : List Int) (n i : Nat) (h : i < n) : hasOf ks vs n (at0 ks i) = true := lastV_some_lt ks vs _ n i h rfl
theorem Row.drewN {k : IntKind} {w : World} {a : Option Addr} {zs : List Int} (h : Row k w a zs) (d : Nat) : Row k (w.drewN d) a zs := h

set_option maxRecDepth 100000 in
set_option maxHeartbeats 1000000 in
theorem tells_new (ak av an af : Option Addr) (ck cv cn cf : Nat) (ks vs tn tf : List Int) (r j : Int) (w : World) (hk : Row .i64 w ak ks) (hv : Row .i64 w av vs) (hn : Row .i64 w an tn) (hf : Row .i64 w af tf)
    (lk : ks.length ≤ 1024) (lv : vs.length ≤ 1024) (ln : tn.length ≤ 1024) (lf : tf.length ≤ 1024) (m t : Nat) (hm0 : IsMin ks.length vs.length m) (ht0 : IsMin tn.length tf.length t)
    (wk : ∀ n ∈ ks, (Lit.int .i64 n).wf = true) (wv : ∀ n ∈ vs, (Lit.int .i64 n).wf = true) (wr' : (Lit.int .i64 r).wf = true) (wj : (Lit.int .i64 j).wf = true)
    (hfd : hasOf ks vs m j = false) :
    Calls Yba.prog 5 #[.slice ak ks.length ck, .slice av vs.length cv, .int .i64 r, .slice an tn.length cn, .slice af tf.length cf, .int .i64 j] w fun e w' => e = .returned (.bool true) ∧ Below w.heap.size w w' := by
  have hm := hm0.le
  have ht := ht0.le
  have hd := dcnt_le ks vs m
  have hfd := hide hfd
  have hrec : recentB false r (valOf ks vs m j) = false := by rfl
  have hrec := hide hrec
  go_enter Yba.func5, Yba.ntmps5
  go_wp2_with fail
  refine (cbuild_any ak av an af ck cv cn cf ks vs tn tf r _ hk hv hn hf lk lv ln lf m t hm0 ht0 wk wv).mono ?_
  rintro e w1 ⟨nb, sb, row, rfl, hown, hrow, htold, c2, c0, c1, f2, b2, b3, hB⟩
  have hk1 := hk.later hB
  have hv1 := hv.later hB
  have hn1 := hn.later hB
  have hf1 := hf.later hB
  have hlen := len_mapN Yba.underlying43 hown
  go_wp2_with fail
  refine (last_any ak av ck cv ks vs m j _ hk1 hv1 hm.1 hm.2 (by omega)).mono ?_
  rintro e w' ⟨rfl, rfl⟩
  rw [unhide hfd]
  go_wp2_with fail
  refine (crash_yes nb _ sb t m r _ j false row _ _ w.heap.size (look_map hown wj (unhide hfd)) hown (by omega) (by omega) wj wr' hrow c2 f2 c0 c1 (unhide hrec) (Nat.le_refl _) b2 b3).mono ?_
  clear hlen
  rintro e w2 ⟨rfl, g, cap, row', hown2, d2, hcap, hrow2, er, ej, e8, d0, d1, hB12⟩
  have hB2 := hB.trans hB12
  have htold2 := told2_congr htold er
  have hlen2 := len_put hown2 (unhide hfd)
  have hlook := look_same hown2 wj
  have hk2 := hk.later hB2
  have hv2 := hv.later hB2
  have hn2 := hn.later hB2
  have hf2 := hf.later hB2
  clear hk hv hn hf hk1 hv1 hn1 hf1
  go_wp2_with fail
  go_loopw [23] (fun i wx => ∃ (n d : Nat), n ≤ t ∧ i = .int .i64 n ∧ wx = w2.drewN d) (fun i _ => t - (intOf i).toNat)
  case atStart => exact ⟨0, 0, Nat.zero_le _, rfl, rfl⟩
  case round =>
    obtain ⟨n, d, hn', rfl, rfl⟩ := hrel
    by_cases hlt : n < t
    · rcases hn2 with hn2 | ⟨b, o, rfl, hb, hc⟩
      · omega
      rcases hf2 with hf2 | ⟨bv, ov, rfl, hbv, hcv⟩
      · omega
      have hx := hc n (by omega)
      have hy := hcv n (by omega)
      have x1 := hrow2.cell (i := n * 2) (by omega)
      rw [(htold2 n hlt).1] at x1
      have x2 := hrow2.cell (i := n * 2 + 1) (by omega)
      rw [(htold2 n hlt).2] at x2
      go_wp2_with fail
      go_quiet (fail)
      go_wp2_with fail
      go_roundw
      case rel => exact ⟨n + 1, _, by omega, by go_num, rfl⟩
      case measure => simp [intOf]; omega
    · have hnt : n = t := by omega
      subst hnt
      have y1 := hrow2.cell (i := n * 2) (by omega)
      rw [ej] at y1
      have y2 := hrow2.cell (i := n * 2 + 1) (by omega)
      rw [e8] at y2
      have hlook2 := look_same (ownsMap_drewN hown2 d) wj
      have hlen3 := len_put (ownsMap_drewN hown2 d) (unhide hfd)
      go_wp2_with fail
      go_loopw [27] (fun i wx => ∃ (q d : Nat), q ≤ m ∧ i = .int .i64 q ∧ wx = w2.drewN d) (fun i _ => m - (intOf i).toNat)
      case atStart => exact ⟨0, d, Nat.zero_le _, rfl, rfl⟩
      case round =>
        obtain ⟨q, d, hq, rfl, rfl⟩ := hrel
        by_cases hlt2 : q < m
        · have hk3 := hk2
          rcases hk2 with hk2 | ⟨b, o, rfl, hb, hc⟩
          · omega
          have hx := hc q (by omega)
          go_wp2_with fail
          refine (last_any _ av ck cv ks vs m (at0 ks q) _ (hk3.drewN d) (hv2.drewN d) hm.1 hm.2 (by omega)).mono ?_
          rintro e w' ⟨rfl, rfl⟩
          rw [has_key ks vs m q hlt2]
          by_cases he : at0 ks q = j
          · have hl5 : (Instr.lookup 43 (.map (some w.heap.size)) (.int .i64 (at0 ks q)) true).run Yba.prog (w2.drewN d) = .ok (.tuple #[.int .i64 r, .bool true]) (w2.drewN d) := by
              rw [he]; exact look_same (ownsMap_drewN hown2 d) wj
            have hl6 := look_same (ownsMap_drewN hown2 d) wj
            have heb : (at0 ks q == j) = true := beq_iff_eq.2 he
            have he := hide he
            go_wp2_with fail
            go_roundw
            case rel => exact ⟨q + 1, d, by omega, by go_num, rfl⟩
            case measure => simp [intOf]; omega
          · have hl5 := look_other (ownsMap_drewN hown2 d) (wf_at0 wk q) he (has_key ks vs m q hlt2)
            have heb : (at0 ks q == j) = false := beq_eq_false_iff_ne.2 he
            go_wp2_with fail
            go_roundw
            case rel => exact ⟨q + 1, d, by omega, by go_num, rfl⟩
            case measure => simp [intOf]; omega
        · go_wp2_with fail
          go_ret
          exact ⟨rfl, below_drewN hB2 d⟩

set_option maxRecDepth 100000 in
set_option maxHeartbeats 1000000 in
theorem tells_stale (ak av an af : Option Addr) (ck cv cn cf : Nat) (ks vs tn tf : List Int) (r j : Int) (w : World) (hk : Row .i64 w ak ks) (hv : Row .i64 w av vs) (hn : Row .i64 w an tn) (hf : Row .i64 w af tf)
    (lk : ks.length ≤ 1024) (lv : vs.length ≤ 1024) (ln : tn.length ≤ 1024) (lf : tf.length ≤ 1024) (m t : Nat) (hm0 : IsMin ks.length vs.length m) (ht0 : IsMin tn.length tf.length t)
    (wk : ∀ n ∈ ks, (Lit.int .i64 n).wf = true) (wv : ∀ n ∈ vs, (Lit.int .i64 n).wf = true) (wr' : (Lit.int .i64 r).wf = true) (wj : (Lit.int .i64 j).wf = true)
    (hfd : hasOf ks vs m j = true) (hrc : decide (wrap64 (r - valOf ks vs m j) ≤ 120) = false) :
    Calls Yba.prog 5 #[.slice ak ks.length ck, .slice av vs.length cv, .int .i64 r, .slice an tn.length cn, .slice af tf.length cf, .int .i64 j] w fun e w' => e = .returned (.bool true) ∧ Below w.heap.size w w' := by
  have hm := hm0.le
  have ht := ht0.le
  have hd := dcnt_le ks vs m
  have hfd := hide hfd
  have hrec : recentB true r (valOf ks vs m j) = false := by unfold recentB; rw [hrc]; rfl
  have hrec := hide hrec
  go_enter Yba.func5, Yba.ntmps5
  go_wp2_with fail
  refine (cbuild_any ak av an af ck cv cn cf ks vs tn tf r _ hk hv hn hf lk lv ln lf m t hm0 ht0 wk wv).mono ?_
  rintro e w1 ⟨nb, sb, row, rfl, hown, hrow, htold, c2, c0, c1, f2, b2, b3, hB⟩
  have hk1 := hk.later hB
  have hv1 := hv.later hB
  have hn1 := hn.later hB
  have hf1 := hf.later hB
  have hlen := len_mapN Yba.underlying43 hown
  go_wp2_with fail
  refine (last_any ak av ck cv ks vs m j _ hk1 hv1 hm.1 hm.2 (by omega)).mono ?_
  rintro e w' ⟨rfl, rfl⟩
  rw [unhide hfd]
  go_wp2_with fail
  refine (crash_yes nb _ sb t m r _ j true row _ _ w.heap.size (look_map hown wj (unhide hfd)) hown (by omega) (by omega) wj wr' hrow c2 f2 c0 c1 (unhide hrec) (Nat.le_refl _) b2 b3).mono ?_
  clear hlen
  rintro e w2 ⟨rfl, g, cap, row', hown2, d2, hcap, hrow2, er, ej, e8, d0, d1, hB12⟩
  have hB2 := hB.trans hB12
  have htold2 := told2_congr htold er
  have hlen2 := len_put hown2 (unhide hfd)
  have hlook := look_same hown2 wj
  have hk2 := hk.later hB2
  have hv2 := hv.later hB2
  have hn2 := hn.later hB2
  have hf2 := hf.later hB2
  clear hk hv hn hf hk1 hv1 hn1 hf1
  go_wp2_with fail
  go_loopw [23] (fun i wx => ∃ (n d : Nat), n ≤ t ∧ i = .int .i64 n ∧ wx = w2.drewN d) (fun i _ => t - (intOf i).toNat)
  case atStart => exact ⟨0, 0, Nat.zero_le _, rfl, rfl⟩
  case round =>
    obtain ⟨n, d, hn', rfl, rfl⟩ := hrel
    by_cases hlt : n < t
    · rcases hn2 with hn2 | ⟨b, o, rfl, hb, hc⟩
      · omega
      rcases hf2 with hf2 | ⟨bv, ov, rfl, hbv, hcv⟩
      · omega
      have hx := hc n (by omega)
      have hy := hcv n (by omega)
      have x1 := hrow2.cell (i := n * 2) (by omega)
      rw [(htold2 n hlt).1] at x1
      have x2 := hrow2.cell (i := n * 2 + 1) (by omega)
      rw [(htold2 n hlt).2] at x2
      go_wp2_with fail
      go_quiet (fail)
      go_wp2_with fail
      go_roundw
      case rel => exact ⟨n + 1, _, by omega, by go_num, rfl⟩
      case measure => simp [intOf]; omega
    · have hnt : n = t := by omega
      subst hnt
      have y1 := hrow2.cell (i := n * 2) (by omega)
      rw [ej] at y1
      have y2 := hrow2.cell (i := n * 2 + 1) (by omega)
      rw [e8] at y2
      have hlook2 := look_same (ownsMap_drewN hown2 d) wj
      have hlen3 := len_put (ownsMap_drewN hown2 d) (unhide hfd)
      go_wp2_with fail
      go_loopw [27] (fun i wx => ∃ (q d : Nat), q ≤ m ∧ i = .int .i64 q ∧ wx = w2.drewN d) (fun i _ => m - (intOf i).toNat)
      case atStart => exact ⟨0, d, Nat.zero_le _, rfl, rfl⟩
      case round =>
        obtain ⟨q, d, hq, rfl, rfl⟩ := hrel
        by_cases hlt2 : q < m
        · have hk3 := hk2
          rcases hk2 with hk2 | ⟨b, o, rfl, hb, hc⟩
          · omega
          have hx := hc q (by omega)
          go_wp2_with fail
          refine (last_any _ av ck cv ks vs m (at0 ks q) _ (hk3.drewN d) (hv2.drewN d) hm.1 hm.2 (by omega)).mono ?_
          rintro e w' ⟨rfl, rfl⟩
          rw [has_key ks vs m q hlt2]
          by_cases he : at0 ks q = j
          · have hl5 : (Instr.lookup 43 (.map (some w.heap.size)) (.int .i64 (at0 ks q)) true).run Yba.prog (w2.drewN d) = .ok (.tuple #[.int .i64 r, .bool true]) (w2.drewN d) := by
              rw [he]; exact look_same (ownsMap_drewN hown2 d) wj
            have hl6 := look_same (ownsMap_drewN hown2 d) wj
            have heb : (at0 ks q == j) = true := beq_iff_eq.2 he
            have he := hide he
            go_wp2_with fail
            go_roundw
            case rel => exact ⟨q + 1, d, by omega, by go_num, rfl⟩
            case measure => simp [intOf]; omega
          · have hl5 := look_other (ownsMap_drewN hown2 d) (wf_at0 wk q) he (has_key ks vs m q hlt2)
            have heb : (at0 ks q == j) = false := beq_eq_false_iff_ne.2 he
            go_wp2_with fail
            go_roundw
            case rel => exact ⟨q + 1, d, by omega, by go_num, rfl⟩
            case measure => simp [intOf]; omega
        · go_wp2_with fail
          go_ret
          exact ⟨rfl, below_drewN hB2 d⟩

set_option maxRecDepth 100000 in
set_option maxHeartbeats 1000000 in
theorem tells_recent (ak av an af : Option Addr) (ck cv cn cf : Nat) (ks vs tn tf : List Int) (r j : Int) (w : World) (hk : Row .i64 w ak ks) (hv : Row .i64 w av vs) (hn : Row .i64 w an tn) (hf : Row .i64 w af tf)
    (lk : ks.length ≤ 1024) (lv : vs.length ≤ 1024) (ln : tn.length ≤ 1024) (lf : tf.length ≤ 1024) (m t : Nat) (hm0 : IsMin ks.length vs.length m) (ht0 : IsMin tn.length tf.length t)
    (wk : ∀ n ∈ ks, (Lit.int .i64 n).wf = true) (wv : ∀ n ∈ vs, (Lit.int .i64 n).wf = true) (wr' : (Lit.int .i64 r).wf = true) (wj : (Lit.int .i64 j).wf = true)
    (hfd : hasOf ks vs m j = true) (hrc : decide (wrap64 (r - valOf ks vs m j) ≤ 120) = true) :
    Calls Yba.prog 5 #[.slice ak ks.length ck, .slice av vs.length cv, .int .i64 r, .slice an tn.length cn, .slice af tf.length cf, .int .i64 j] w fun e w' => e = .returned (.bool true) ∧ Below w.heap.size w w' := by
  have hm := hm0.le
  have ht := ht0.le
  have hd := dcnt_le ks vs m
  have hfd := hide hfd
  have hrec : recentB true r (valOf ks vs m j) = true := by unfold recentB; rw [hrc]; rfl
  have hrec := hide hrec
  go_enter Yba.func5, Yba.ntmps5
  go_wp2_with fail
  refine (cbuild_any ak av an af ck cv cn cf ks vs tn tf r _ hk hv hn hf lk lv ln lf m t hm0 ht0 wk wv).mono ?_
  rintro e w1 ⟨nb, sb, row, rfl, hown, hrow, htold, c2, c0, c1, f2, b2, b3, hB⟩
  have hk1 := hk.later hB
  have hv1 := hv.later hB
  have hn1 := hn.later hB
  have hf1 := hf.later hB
  have hlen := len_mapN Yba.underlying43 hown
  go_wp2_with fail
  refine (last_any ak av ck cv ks vs m j _ hk1 hv1 hm.1 hm.2 (by omega)).mono ?_
  rintro e w' ⟨rfl, rfl⟩
  rw [unhide hfd]
  go_wp2_with fail
  refine (crash_no nb _ r _ j true _ (look_map hown wj (unhide hfd)) c0 c1 (unhide hrec)).mono ?_
  rintro e w2 ⟨rfl, rfl⟩
  have hk2 := hk.later hB
  have hv2 := hv.later hB
  have hn2 := hn.later hB
  have hf2 := hf.later hB
  clear hk hv hn hf hk1 hv1 hn1 hf1
  go_wp2_with fail
  go_loopw [23] (fun i wx => ∃ (n d : Nat), n ≤ t ∧ i = .int .i64 n ∧ wx = w2.drewN d) (fun i _ => t - (intOf i).toNat)
  case atStart => exact ⟨0, 0, Nat.zero_le _, rfl, rfl⟩
  case round =>
    obtain ⟨n, d, hn', rfl, rfl⟩ := hrel
    by_cases hlt : n < t
    · rcases hn2 with hn2 | ⟨b, o, rfl, hb, hc⟩
      · omega
      rcases hf2 with hf2 | ⟨bv, ov, rfl, hbv, hcv⟩
      · omega
      have hx := hc n (by omega)
      have hy := hcv n (by omega)
      have x1 := hrow.cell (i := n * 2) (by omega)
      rw [(htold n hlt).1] at x1
      have x2 := hrow.cell (i := n * 2 + 1) (by omega)
      rw [(htold n hlt).2] at x2
      go_wp2_with fail
      go_quiet (fail)
      go_wp2_with fail
      go_roundw
      case rel => exact ⟨n + 1, _, by omega, by go_num, rfl⟩
      case measure => simp [intOf]; omega
    · have hnt : n = t := by omega
      subst hnt
      have hlen3 := len_mapN Yba.underlying43 (ownsMap_drewN hown d)
      go_wp2_with fail
      go_loopw [27] (fun i wx => ∃ (q d : Nat), q ≤ m ∧ i = .int .i64 q ∧ wx = w2.drewN d) (fun i _ => m - (intOf i).toNat)
      case atStart => exact ⟨0, d, Nat.zero_le _, rfl, rfl⟩
      case round =>
        obtain ⟨q, d, hq, rfl, rfl⟩ := hrel
        by_cases hlt2 : q < m
        · have hk3 := hk2
          rcases hk2 with hk2 | ⟨b, o, rfl, hb, hc⟩
          · omega
          have hx := hc q (by omega)
          go_wp2_with fail
          refine (last_any _ av ck cv ks vs m (at0 ks q) _ (hk3.drewN d) (hv2.drewN d) hm.1 hm.2 (by omega)).mono ?_
          rintro e w' ⟨rfl, rfl⟩
          rw [has_key ks vs m q hlt2]
          have hl5 := look_map (ownsMap_drewN hown d) (wf_at0 wk q) (has_key ks vs m q hlt2)
          go_wp2_with fail
          go_roundw
          case rel => exact ⟨q + 1, d, by omega, by go_num, rfl⟩
          case measure => simp [intOf]; omega
        · go_wp2_with fail
          go_ret
          exact ⟨rfl, below_drewN hB d⟩

end Go.Proofs.Ybulkbtko

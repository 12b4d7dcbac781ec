import Derived.Test.YbulkbtkoGreatFmtExpB
namespace Go.Proofs.YbulkbtkoGreatFmt
open Go.RowKit
set_option linter.unusedVariables false
set_option linter.unusedSimpArgs false

set_option maxHeartbeats 8000000 in
set_option maxRecDepth 100000 in
theorem exptable_any {w : World} {wsb ib cb lb N s : Nat} {id cw : Nat → Nat} {cI : Nat → Int} {inL : Nat → Bool} (hW : WS w wsb ib cb lb N s id cw inL) (hid : ∀ i, id i < 18446744073709551616)
    (hinj : ∀ i j, i < N → j < N → id i = id j → i = j) (hcw : ∀ i, Reads (cw i) (cI i)) (hN : N ≤ 300) (hs : s < N) :
    Calls Ybaz.prog 9 #[.pointer (some ⟨wsb, 0, none⟩)] w fun e w' => ∃ T, e = .returned (.agg (tabL T).toArray) ∧ Below w.heap.size w w' ∧ Spec cI id s ((List.range N).filter inL) T := by
  have HW := hide hW
  have i1 : (s : Int) < (N : Int) := by omega
  have i0 : (0 : Int) ≤ (s : Int) := by omega
  clear hW
  go_enter Ybaz.func9, Ybaz.ntmps9
  go_upto_region 2 with (first
    | (guard_target = wpList _ _ _ (⟨_, Op.alloc 45, _, _, _, _⟩ :: _) _ _; go_must (refine wpList_alloc_any rfl 45 rfl _ _ (alloc45 _) ?_; try simp only [Act.put, List.setIfInBounds_toArray, List.set_cons_zero, List.set_cons_succ]))
    | go_in)
  have hst0 := XL.start w
  obtain ⟨wA, hwA⟩ : ∃ wA, wA = (w.alloc (.cells z45 45)).alloc (.cells z45 45) := ⟨_, rfl⟩
  have e1 : (w.alloc (.cells z45 45)).heap.size = w.heap.size + 1 := by simp
  try rw [e1]
  rw [← hwA] at hst0 ⊢
  clear hwA e1
  obtain ⟨rb, hrb⟩ : ∃ rb, w.heap.size = rb := ⟨_, rfl⟩
  obtain ⟨xb, hxb⟩ : ∃ xb, w.heap.size + 1 = xb := ⟨_, rfl⟩
  have hst1 : Hid (XL w wA rb xb (layT id s 0 0)) := by
    rw [← hxb, ← hrb]
    exact ⟨hst0.row.congr fun k hk => by simp [layT], hst0.res, hst0.bel, hst0.ne, hst0.ge, hst0.geR⟩
  rw [hxb, hrb]
  clear hst0 hrb hxb
  go_upto_block 0 with fail
  go_cut [] (fun wq => Hid (XL w wq rb xb (layT id s 16 0)))
  case first =>
    go_wp2_with fail
    go_loopw [4] (fun iv wr => ∃ i : Nat, i ≤ 16 ∧ iv = .int .i64 (i : Int) ∧ Hid (XL w wr rb xb (layT id s i 0))) (fun iv _ => 16 - (intOf iv).toNat)
    case atStart => exact ⟨0, by omega, rfl, hst1⟩
    case round =>
      obtain ⟨i, hi, rfl, hX⟩ := hrel
      by_cases hlt : i < 16
      · have v0 : (0 : Int) ≤ (i : Int) := by omega
        have v1 : (i : Int) < 16 := by omega
        rename World => wO
        go_wp2_with fail
        go_loopw [5] (fun dv wr => ∃ d : Nat, d ≤ 16 ∧ dv = .int .i64 (d : Int) ∧ Hid (XL w wr rb xb (layT id s i d))) (fun dv _ => 16 - (intOf dv).toNat)
        case atStart => exact ⟨0, by omega, rfl, hX⟩
        case round =>
          obtain ⟨d, hd, rfl, hV⟩ := hrel
          by_cases hdl : d < 16
          · have t8 := (unhide hV).cell (p := 16 * i + d) (o := i * 16 + d) (by omega) (by omega)
            have z8 := (unhide hV).row.frozen (i * 16 + d)
            have v2 : (0 : Int) ≤ (d : Int) := by omega
            have v3 : (d : Int) < 16 := by omega
            go_wp2_with fail
            exact ⟨⟨d + 1, by omega, rfl, (unhide hV).put (p := 16 * i + d) (by omega) (layT_cell hdl)⟩, by simp [intOf]; omega⟩
          · obtain rfl : d = 16 := by omega
            have hdg := dig_lt (id s) i
            have t8 := (unhide hV).cell (p := 16 * i + dig (id s) i) (o := i * 16 + dig (id s) i) (by omega) (by omega)
            have z8 := (unhide hV).row.frozen (i * 16 + dig (id s) i)
            have v2 : (0 : Int) ≤ ((dig (id s) i : Nat) : Int) := by omega
            have v3 : ((dig (id s) i : Nat) : Int) < 16 := by omega
            rename World => wV
            have hWV := (unhide HW).below (unhide hV).bel
            have c2 := hWV.c2
            have c4 := hWV.c4
            have d1 := hWV.ids.cell hs
            have hWS := ((unhide HW).below (((unhide hV).same ((Same.refl _).drew)).put (p := 16 * i + dig (id s) i) (o := i * 16 + dig (id s) i) (by omega) layT_row).bel)
            have c2' := hWS.c2
            have c4' := hWS.c4
            have d1' := hWS.ids.cell hs
            clear hWV hWS
            go_wp2_with fail
            go_region_held3 (fun w' => w'.cell? ⟨wsb, 2, none⟩ = some (.slice (some ⟨ib, 0, none⟩) N N) ∧ w'.cell? ⟨wsb, 4, none⟩ = some (.int .i64 (s : Int)) ∧ w'.cell? ⟨ib, s, none⟩ = some (.int .u64 ((id s : Nat) : Int)))
              ((first | exact ⟨c2, c4, d1⟩ | exact ⟨c2', c4', d1'⟩))
              ((go_at_call 18; refine (zdigit_any (id s) i _ (hid s) hlt).mono ?_; rintro e w1 ⟨rfl, rfl⟩))
            all_goals (
              go_wp2_with fail
              exact ⟨⟨i + 1, by omega, rfl, ((unhide hV).same ((Same.refl _).drew)).put (p := 16 * i + dig (id s) i) (by omega) layT_row⟩, by simp [intOf]; omega⟩)
      · obtain rfl : i = 16 := by omega
        go_wp2_with fail
        go_meet
        exact hX
  case rest =>
    exact (by assumption : ∀ (a : Act) (w0 : World), Code.wp Ybaz.prog etail3 (bodyPost Ybaz.prog Ybaz.f9 fun e w' => ∃ T, e = .returned (.agg (tabL T).toArray) ∧ Below w.heap.size w w' ∧ Spec cI id s ((List.range N).filter inL) T) a w0 → _) _ _ (exp_t3 (unhide HW) hid hinj hcw hN hs (unhide hcut))

end Go.Proofs.YbulkbtkoGreatFmt

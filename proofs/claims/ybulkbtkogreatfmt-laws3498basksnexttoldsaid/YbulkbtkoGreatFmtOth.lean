import Derived.Test.YbulkbtkoGreatFmtTell
namespace Go.Proofs.YbulkbtkoGreatFmt
open Go.RowKit
set_option linter.unusedVariables false
set_option linter.unusedSimpArgs false

/-- A row of ints in the making, on blocks of its own. -/
def OR (w wr : World) (v : Value) (n : Nat) : Prop := ∃ m xs, m ≤ n ∧ wr.ownsRow 0 3 1 v m xs ∧ Below w.heap.size w wr ∧ ∀ g ∈ ob v, w.heap.size ≤ g
theorem OR.bel {w wr : World} {v : Value} {n : Nat} (h : OR w wr v n) : Below w.heap.size w wr := by
  obtain ⟨m, xs, _, _, h, _⟩ := h
  exact h
theorem OR.more {w wr : World} {v : Value} {n k : Nat} (h : OR w wr v n) (hk : n ≤ k) : OR w wr v k := by
  obtain ⟨m, xs, h1, h2⟩ := h
  exact ⟨m, xs, Nat.le_trans h1 hk, h2⟩

set_option maxHeartbeats 4000000 in
set_option maxRecDepth 100000 in
theorem others_any {w : World} {nb ib vb N s : Nat} {T : Nat → Int} {C : Nat → Nat} {ed : Int} {r : Nat → Value} (hNode : NodeIs w nb ib vb N s T C ed r) :
    Calls Ybaz.prog 40 #[.pointer (some ⟨nb, 0, none⟩)] w fun e w' => ∃ a n c, e = .returned (.slice a n c) ∧ Below w.heap.size w w' := by
  have HNode := hide hNode
  have hnl := hNode.row.lt
  clear hNode
  go_enter Ybaz.func40, Ybaz.ntmps40
  go_wp2_with fail
  go_loopw [7, 3] (fun iv nv wr => ∃ i : Nat, i ≤ 16 ∧ iv = .int .i64 (i : Int) ∧ Hid (OR w wr nv (16 * i))) (fun iv _ _ => 16 - (intOf iv).toNat)
  case atStart => exact ⟨0, by omega, rfl, 0, [], by omega, ⟨rfl, .inl ⟨rfl, rfl⟩⟩, Below.refl _ _, fun g hg => by simp [ob, Value.ownBlock] at hg⟩
  case round =>
    obtain ⟨i, hi, rfl, hI⟩ := hrel
    by_cases hlt : i < 16
    · have v0 : (0 : Int) ≤ (i : Int) := by omega
      have v1 : (i : Int) < 16 := by omega
      rename World => wO
      have hrange : wO.rangeAt nb (3 + i * 16) (rowT T i) := by
        intro d u hd
        unfold rowT at hd
        rw [List.getElem?_map] at hd
        by_cases hdl : d < 16
        · rw [List.getElem?_range hdl] at hd
          simp only [Option.map_some, Option.some.injEq] at hd
          refine cell_stays (unhide hI).bel ?_
          rw [(unhide HNode).row.cell (by omega), show 3 + i * 16 + d = 3 + (16 * i + d) by omega, ndF_t (by omega), hd]
        · rw [List.getElem?_eq_none (by simp; omega)] at hd
          cases hd
      go_upto_block 2 with (first
        | (guard_target = wpList _ _ _ (⟨_, Op.load 44 _, _, _, _, _⟩ :: _) _ _; go_must (refine wpList_load_mid rfl 44 _ rfl nb (3 + i * 16) rfl _ _ hrange Ybaz.underlying44 rfl (by rw [rowT_len]; kernel_rfl) ?_; try simp only [Act.put, List.setIfInBounds_toArray, List.set_cons_zero, List.set_cons_succ]))
        | go_in)
      go_wp2_with fail
      go_loopw [16, 3] (fun dv nv wr => ∃ d : Nat, d ≤ 16 ∧ dv = .int .i64 (d : Int) ∧ Hid (OR w wr nv (16 * i + d))) (fun dv _ _ => 16 - (intOf dv).toNat)
      case atStart => exact ⟨0, by omega, rfl, hI⟩
      case round =>
        obtain ⟨d, hd, rfl, hI2⟩ := hrel
        by_cases hdl : d < 16
        · have d0 : (0 : Int) ≤ (d : Int) := by omega
          have d1 : (d : Int) < 16 := by omega
          rename World => wI
          have hri : (rowT T i).toArray[d]? = some (.int .i64 (T (16 * i + d))) := by
            rw [List.getElem?_toArray]
            unfold rowT
            rw [List.getElem?_map, List.getElem?_range hdl]
            rfl
          have c0 : wI.cell? ⟨nb, 0, none⟩ = some (.int .i64 (s : Int)) := cell_stays (unhide hI2).bel (((unhide HNode).row.cell (by omega)).trans (by simp [ndF, (unhide HNode).r0]))
          have hix := fun w' => index44 (rowT T i).toArray d _ hdl hri w'
          clear hri
          go_upto_region 8 with fail
          clear hix
          obtain ⟨t, ht⟩ : ∃ t, T (16 * i + d) = t := ⟨_, rfl⟩
          rw [ht]
          clear ht
          by_cases e1 : t = -1
          · have u1 : (t != -1) = false := by simp [e1]
            subst e1
            go_wp2_with fail
            exact ⟨⟨d + 1, by omega, rfl, (unhide hI2).more (by omega)⟩, by simp [intOf]; omega⟩
          · have u1 : (t != -1) = true := by simp [e1]
            by_cases e2 : t = (s : Int)
            · have u2 : (t != (s : Int)) = false := by simp [e2]
              subst e2
              go_wp2_with fail
              exact ⟨⟨d + 1, by omega, rfl, (unhide hI2).more (by omega)⟩, by simp [intOf]; omega⟩
            · have u2 : (t != (s : Int)) = true := by simp [e2]
              obtain ⟨m, xs, hm, hown, hbel, hfz⟩ := unhide hI2
              have Hown := hide hown
              have Hbel := hide hbel
              have Hfz := hide hfz
              clear hown hbel hfz
              go_wp2_with (guard_target = wpList _ _ _ (⟨_, Op.call { callee := Callee.builtin Builtin.append, args := _, argTypes := _ }, _, _, _, _⟩ :: _) _ _; go_must (refine wpList_app1 rfl _ _ rfl _ _ _ rfl (own_fr (unhide Hown) ((Fr.refl _ []).alloc _) (by simp)) _ rfl (.int .i64 t) (by go_simp) rfl (by omega) ?_; intro g cap w3 hown3' hF3' hg3'; have hown3 := hide hown3'; have hF3 := hide hF3'; have hg3 := hide hg3'; clear hown3' hF3' hg3'; try simp only [Act.put, List.setIfInBounds_toArray, List.set_cons_zero, List.set_cons_succ]))
              refine ⟨⟨d + 1, by omega, rfl, m + 1, _, by omega, unhide hown3, ?_, fun x hx => ?_⟩, by simp [intOf]; omega⟩
              · have hb := (unhide Hbel).alloc (unhide Hbel).size (.cells #[.int .i64 t] 3)
                exact hb.trans ((unhide hF3).below hb.size (unhide Hfz))
              · have e3 : x = g := by simpa [ob, Value.ownBlock] using hx
                subst e3
                rcases unhide hg3 with h | h
                · exact unhide Hfz x h
                · have := (unhide Hbel).size
                  simp at h
                  omega
        · obtain rfl : d = 16 := by omega
          go_wp2_with fail
          exact ⟨⟨i + 1, by omega, rfl, (unhide hI2).more (by omega)⟩, by simp [intOf]; omega⟩
    · obtain rfl : i = 16 := by omega
      obtain ⟨m, xs, hm, hown, hbel, hfz⟩ := unhide hI
      obtain ⟨a, c, rfl, _⟩ := own_shape hown
      have Hbel := hide hbel
      clear hown hbel hfz hI
      go_wp2_with fail
      go_ret
      exact ⟨a, m, c, rfl, unhide Hbel⟩

end Go.Proofs.YbulkbtkoGreatFmt

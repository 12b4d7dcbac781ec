import Derived.Test.YbulkbtkoGreatFmtHof
namespace Go.Proofs.YbulkbtkoGreatFmt
open Go.RowKit
set_option linter.unusedVariables false
set_option linter.unusedSimpArgs false

theorem inf3 : ∃ i, Ybaz.prog.info? 3 = some i ∧ i.zero = some (.int .i64 0) ∧ i.size = 1 ∧ i.bytes = 8 := by
  have h : (Ybaz.prog.info? 3).map (fun i => (i.zero, i.size, i.bytes)) = some (some (.int .i64 0), 1, 8) := by kernel_rfl
  obtain ⟨i, hi, hz⟩ := Option.map_eq_some_iff.1 h
  simp only [Prod.mk.injEq] at hz
  exact ⟨i, hi, hz.1, hz.2.1, hz.2.2⟩

/-- 'append(s, x)' at a []int. -/
theorem wpList_app1 {ops : Array Oper} {rest : List Oper} {o : Oper} {a : Act} {w : World} {Q : Exit → Act → World → Prop} (hgd : o.guard = none) (s x : Operand)
    (ho : o.op = .call { callee := .builtin .append, args := #[s, x], argTypes := #[31, 31] }) (v : Value) (n : Nat) (xs : List Value) (hs : a.eval s = v) (hown : w.ownsRow 0 3 1 v n xs) (g0 : Nat) (hx : a.eval x = .slice (some ⟨g0, 0, none⟩) 1 1) (u : Value) (hu : w.cell? ⟨g0, 0, none⟩ = some u) (h1 : u.oneCell' = true) (hn : n ≤ 5000)
    (h : ∀ g cap w', w'.ownsRow 0 3 1 (.slice (some ⟨g, 0, none⟩) (n + 1) cap) (n + 1) (xs ++ [u]) → Fr w w' (ob v) → (g ∈ ob v ∨ w.heap.size ≤ g) → wpList Ybaz.prog ops Q rest (a.put o.dst (.slice (some ⟨g, 0, none⟩) (n + 1) cap)) w') : wpList Ybaz.prog ops Q (o :: rest) a w := by
  obtain ⟨i5, hi5, hz5, hsz5, hby5⟩ := inf3
  refine wpList_append_lies _ hgd s x 31 ho 0 3 i5 _ 1 8 Ybaz.underlying31 hi5 hz5 hsz5 hby5 rfl (by omega) v n xs hs hown ⟨g0, 0, none⟩ 1 1 [u] hx rfl (fun j y hj => ?_) (fun y hy => ?_) (by omega) (by have : maxLen = 9223372036854775807 := rfl; omega) (by omega) (Nat.zero_le _) w.heap.size rfl (fun g cap w' h2 h3 h4 h5 => h g cap w' h2 (.of_grown h3) ?_)
  · rcases j with _ | j
    · simp at hj
      subst hj
      rw [Addr.add_mid]
      exact hu
    · simp at hj
  · simp at hy
    subst hy
    exact h1
  · rcases h4 with h | h
    · left; simp [ob, h]
    · right; omega

theorem nan_any (a : Int) (w : World) : Calls Ybaz.prog 57 #[.int .i64 a] w fun e w' => e = .returned (.bool false) ∧ w' = w := by
  have h : (a != a) = false := by simp
  go_enter Ybaz.func57, Ybaz.ntmps57
  go_wp2_with fail
  go_ret
  exact ⟨by simp, rfl⟩

theorem less_any (a b : Int) (w : World) : Calls Ybaz.prog 42 #[.int .i64 a, .int .i64 b] w fun e w' => e = .returned (.bool (decide (a < b))) ∧ w' = w := by
  go_enter Ybaz.func42, Ybaz.ntmps42
  go_wp2_with (go_at_call 57; refine (nan_any _ _).mono ?_; rintro e w' ⟨rfl, rfl⟩)
  go_ret
  exact ⟨rfl, rfl⟩

theorem bsNil_any (j : Int) (w : World) : Calls Ybaz.prog 28 #[.slice none 0 0, .int .i64 j] w fun e w' => e = .returned (.tuple #[.int .i64 0, .bool false]) ∧ w' = w := by
  go_enter Ybaz.func28, Ybaz.ntmps28
  go_wp2_with fail
  refine wp_loop_rounds 1 ?_
  rw [rounds_succ]
  go_wp2_with fail
  exact bodyPost_ret (results_tmp2 (by rfl) _ _ _) rfl ⟨rfl, rfl⟩

theorem bsOne_any {w : World} {g cap : Nat} (j : Int) (hc : w.cell? ⟨g, 0, none⟩ = some (.int .i64 j)) : Calls Ybaz.prog 28 #[.slice (some ⟨g, 0, none⟩) 1 cap, .int .i64 j] w fun e w' => e = .returned (.tuple #[.int .i64 0, .bool true]) ∧ w' = w := by
  have hl : decide (j < j) = false := by simp
  go_enter Ybaz.func28, Ybaz.ntmps28
  go_wp2_with fail
  refine wp_loop_rounds 2 ?_
  rw [rounds_succ]
  go_wp2_with (go_at_call 42; refine (less_any _ _ _).mono ?_; rintro e w' ⟨rfl, rfl⟩; rw [hl])
  rw [rounds_succ]
  go_wp2_with fail
  exact bodyPost_ret (results_tmp2 (by rfl) _ _ _) rfl ⟨rfl, rfl⟩

theorem insOne_any {w : World} {a : Nat} (j : Int) (hc : w.cell? ⟨a, 0, none⟩ = some (.int .i64 j)) : Calls Ybaz.prog 29 #[.slice none 0 0, .int .i64 0, .slice (some ⟨a, 0, none⟩) 1 1] w fun e w' => ∃ g cap, e = .returned (.slice (some ⟨g, 0, none⟩) 1 cap) ∧ Below w.heap.size w w' ∧ w.heap.size ≤ g ∧ w'.cell? ⟨g, 0, none⟩ = some (.int .i64 j) := by
  go_enter Ybaz.func29, Ybaz.ntmps29
  go_wp2_with (guard_target = wpList _ _ _ (⟨_, Op.call { callee := Callee.builtin Builtin.append, args := _, argTypes := _ }, _, _, _, _⟩ :: _) _ _; go_must (refine wpList_app1 rfl _ _ rfl (.slice none 0 0) 0 [] rfl ⟨rfl, .inl ⟨rfl, rfl⟩⟩ a rfl (.int .i64 j) hc rfl (by omega) ?_; intro g cap w3 hown3 hF3 hg3; try simp only [Act.put, List.setIfInBounds_toArray, List.set_cons_zero, List.set_cons_succ]))
  go_ret
  have hg : w.heap.size ≤ g := hg3.elim (fun h => by simp [ob, Value.ownBlock] at h) _root_.id
  obtain ⟨g', cap', he, _, hcell⟩ := own_cells hown3 (by omega)
  simp only [Value.slice.injEq, Option.some.injEq, Addr.mk.injEq] at he
  refine ⟨g, cap, rfl, hF3.below (Nat.le_refl _) (by simp [ob, Value.ownBlock]), hg, ?_⟩
  rw [he.1.1]
  exact hcell 0 _ rfl

theorem addNil_any {w : World} (j : Int) : Calls Ybaz.prog 21 #[.slice none 0 0, .int .i64 j] w fun e w' => ∃ g cap, e = .returned (.tuple #[.slice (some ⟨g, 0, none⟩) 1 cap, .bool true]) ∧ Below w.heap.size w w' ∧ w.heap.size ≤ g ∧ w'.cell? ⟨g, 0, none⟩ = some (.int .i64 j) := by
  have hB0 : Below w.heap.size w (w.alloc (.cells #[.int .i64 j] 3)) := (Below.refl _ _).alloc (Nat.le_refl _) _
  have hz0 : (w.alloc (.cells #[.int .i64 j] 3)).heap.size = w.heap.size + 1 := by simp
  have hc0 : (w.alloc (.cells #[.int .i64 j] 3)).cell? ⟨w.heap.size, 0, none⟩ = some (.int .i64 j) := by go_simp
  go_enter Ybaz.func21, Ybaz.ntmps21
  go_wp2_with (first
    | (go_at_call 28; refine (bsNil_any _ _).mono ?_; rintro e w' ⟨rfl, rfl⟩)
    | (go_at_call 29; refine (insOne_any j hc0).mono ?_; rintro e w1 ⟨g, cap, rfl, hB, hg, hcg⟩))
  refine bodyPost_ret (results_tmp2 (by rfl) _ _ _) rfl ⟨g, cap, rfl, below_more hB0 hB, by omega, hcg⟩

theorem addOne_any {w : World} {g cap : Nat} (j : Int) (hc : w.cell? ⟨g, 0, none⟩ = some (.int .i64 j)) : Calls Ybaz.prog 21 #[.slice (some ⟨g, 0, none⟩) 1 cap, .int .i64 j] w fun e w' => e = .returned (.tuple #[.slice (some ⟨g, 0, none⟩) 1 cap, .bool false]) ∧ w' = w := by
  go_enter Ybaz.func21, Ybaz.ntmps21
  go_wp2_with (go_at_call 28; refine (bsOne_any _ hc).mono ?_; rintro e w' ⟨rfl, rfl⟩)
  exact bodyPost_ret (results_tmp2 (by rfl) _ _ _) rfl ⟨rfl, rfl⟩

theorem ndF_set {T : Nat → Int} {C : Nat → Nat} {ed ed' : Int} {r : Nat → Value} {v : Value} (k : Nat) : (if k = 789 then .int .i64 ed' else if k = 516 then v else ndF T C ed r k) = ndF T C ed' (putF r 516 v) k := by
  unfold ndF putF
  by_cases h1 : k = 789
  · subst h1; simp
  · rw [if_neg h1]
    by_cases h2 : k = 516
    · subst h2; simp
    · rw [if_neg h2]
      by_cases c1 : 3 ≤ k ∧ k < 259
      · rw [if_pos c1, if_pos c1]
      · rw [if_neg c1, if_neg c1]
        by_cases c2 : 259 ≤ k ∧ k < 515
        · rw [if_pos c2, if_pos c2]
        · rw [if_neg c2, if_neg c2, if_neg h1, if_neg h1, if_neg h2]

theorem heldNil_any {w : World} {nb ib vb N s : Nat} {T : Nat → Int} {C : Nat → Nat} {ed : Int} {r : Nat → Value} (hNode : NodeIs w nb ib vb N s T C ed r) (r516 : r 516 = .slice none 0 0) (hed : 0 ≤ ed ∧ ed ≤ 5000) (j : Int) :
    Calls Ybaz.prog 13 #[.pointer (some ⟨nb, 0, none⟩), .int .i64 j] w fun e w' => e = .returned (.tuple #[]) ∧ ∃ g cap, Fr w w' [nb] ∧ NodeIs w' nb ib vb N s T C (ed + 1) (putF r 516 (.slice (some ⟨g, 0, none⟩) 1 cap)) ∧ w.heap.size ≤ g ∧ w'.cell? ⟨g, 0, none⟩ = some (.int .i64 j) := by
  have c516 : w.cell? ⟨nb, 516, none⟩ = some (.slice none 0 0) := (hNode.row.cell (by omega)).trans (by simp [ndF, r516])
  have HNode := hide hNode
  have hlt := hNode.row.lt
  clear hNode
  go_enter Ybaz.func13, Ybaz.ntmps13
  go_upto_region 2 with (go_at_call 21; refine (addNil_any j).mono ?_; rintro e w1 ⟨g, cap, rfl, hB, hg, hcg⟩
                         have hrow1 := (unhide HNode).row.of_block (hB.block _ hlt)
                         have d516 : w1.cell? ⟨nb, 516, none⟩ = some (.slice none 0 0) := (hrow1.cell (by omega)).trans (by simp [ndF, r516])
                         have z516 := hrow1.frozen 516)
  have hr2 := hrow1.set 516 (.slice (some ⟨g, 0, none⟩) 1 cap)
  have hF2 : Fr w (w1.setCell ⟨nb, 516, none⟩ (.slice (some ⟨g, 0, none⟩) 1 cap)) [nb] := (Fr.of_below hB).set (by simp) _ _
  have hc2 : (w1.setCell ⟨nb, 516, none⟩ (.slice (some ⟨g, 0, none⟩) 1 cap)).cell? ⟨g, 0, none⟩ = some (.int .i64 j) := (World.cell?_of_block (a := ⟨g, 0, none⟩) (Below.heap_setCell _ _ _ _ (by show g ≠ nb; omega))).trans hcg
  generalize w1.setCell ⟨nb, 516, none⟩ (.slice (some ⟨g, 0, none⟩) 1 cap) = w2 at hr2 hF2 hc2 ⊢
  have d789 : w2.cell? ⟨nb, 789, none⟩ = some (.int .i64 ed) := (hr2.cell (by omega)).trans (by simp [ndF])
  have z789 := hr2.frozen 789
  have Hr2 := hide hr2
  have HF2 := hide hF2
  have Hc2 := hide hc2
  clear hr2 hF2 hc2 hcg hrow1
  go_wp2_with fail
  go_end0
  refine ⟨rfl, g, cap, (unhide HF2).set (by simp) _ _, ⟨((unhide Hr2).set 789 (.int .i64 (ed + 1))).congr fun k hk => ndF_set k, ?_, ?_, ?_⟩, hg, ?_⟩
  · simp [putF, (unhide HNode).r0]
  · simp [putF, (unhide HNode).r1]
  · simp [putF, (unhide HNode).r2]
  · exact (World.cell?_of_block (a := ⟨g, 0, none⟩) (Below.heap_setCell _ _ _ _ (by show g ≠ nb; omega))).trans (unhide Hc2)

theorem heldOne_any {w : World} {nb ib vb N s g cap : Nat} {T : Nat → Int} {C : Nat → Nat} {ed : Int} {r : Nat → Value} (hNode : NodeIs w nb ib vb N s T C ed r) (r516 : r 516 = .slice (some ⟨g, 0, none⟩) 1 cap) (j : Int) (hcg : w.cell? ⟨g, 0, none⟩ = some (.int .i64 j)) :
    Calls Ybaz.prog 13 #[.pointer (some ⟨nb, 0, none⟩), .int .i64 j] w fun e w' => e = .returned (.tuple #[]) ∧ Fr w w' [nb] ∧ NodeIs w' nb ib vb N s T C ed r := by
  have c516 : w.cell? ⟨nb, 516, none⟩ = some (.slice (some ⟨g, 0, none⟩) 1 cap) := (hNode.row.cell (by omega)).trans (by simp [ndF, r516])
  have z516 := hNode.row.frozen 516
  have HNode := hide hNode
  clear hNode
  go_enter Ybaz.func13, Ybaz.ntmps13
  go_wp2_with (go_at_call 21; refine (addOne_any j hcg).mono ?_; rintro e w1 ⟨rfl, rfl⟩)
  go_end0
  refine ⟨rfl, (Fr.refl _ _).set (by simp) _ _, ⟨((unhide HNode).row.set 516 _).congr fun k hk => ?_, (unhide HNode).r0, (unhide HNode).r1, (unhide HNode).r2⟩⟩
  by_cases h : k = 516
  · subst h; simp [ndF, r516]
  · simp [h]

end Go.Proofs.YbulkbtkoGreatFmt

import Derived.Test.YbulkbtqmLawE
import Derived.Deep.CutBlock
import Derived.Deep.DeepCutAuto
namespace Go.Proofs.Ybulkbtqm
open Go.RowKit
set_option linter.unusedVariables false
set_option linter.unusedSimpArgs false

set_option maxHeartbeats 4000000 in
set_option maxRecDepth 100000 in
theorem law_any {w : World} {ai ap : Option Addr} {n ci np cp mode mid mp : Nat} {mkS : ByteArray} {st sh ps : Nat → Nat} {rm : Nat → Bool} (hI : Items w ai n st sh rm) (hn : n ≤ 600) (hm : mode ≤ 255) (hid : mid ≤ 255) (hmp : mp ≤ 255) (hst : ∀ i, st i ≤ 255) (hsh : ∀ i, sh i < 18446744073709551616) (hP : PRow w w.heap.size ap np ps) (hps : ∀ i, ps i ≤ 255) (hpl : np ≤ maxLen) :
    Calls Yba.prog 3 #[.slice ai n ci, .slice ap np cp, .int .u8 mode, .int .u8 mid, .string mkS, .int .u8 mp] w fun e w' => e = .returned (.bool true) ∧ Below w.heap.size w w' := by
  have HI := hide hI
  have HP := hide hP
  have Hpl := hide hpl
  clear hI hP hpl
  obtain ⟨c24, h24, hm24⟩ := made24 n hn
  obtain ⟨c23, h23, hm23⟩ := made23 n hn
  obtain ⟨c28, h28, hm28⟩ := made28 n hn
  have H24 := hide h24
  have H23 := hide h23
  have H28 := hide h28
  clear h24 h23 h28
  go_enter Yba.func3, Yba.ntmps3
  go_wp2_with fail
  go_loopw [15, 16, 17] (fun cv gv iv wr => ∃ i : Nat, i ≤ n ∧ iv = .int .i64 (i : Int) ∧ gv = .int .i64 (gOf st i : Nat) ∧ cv = .slice (some ⟨w.heap.size + 1, 0, none⟩) (2 * i) (2 * n) ∧ Hid (LoopA w wr n i st (fun k => c24[k]?.getD undef))) (fun _ _ iv _ => n - (intOf iv).toNat)
  case atStart => exact ⟨0, Nat.zero_le _, rfl, rfl, rfl, LoopA.start w n hn c24 c23 (unhide H24) (unhide H23) st⟩
  case round =>
    obtain ⟨i, hi, rfl, rfl, rfl, hW⟩ := hrel
    by_cases hlt : i < n
    · rcases unhide HI with hI | ⟨b, o, rfl, hc⟩
      · omega
      have hx := (hc i hlt).1
      clear hc
      have hbl := World.block_lt_of_cell? _ _ hx
      have hx := cell_stays (unhide hW).bel hx
      have hq := (unhide hW).gs.cell hlt
      have hf := (unhide hW).gs.frozen i
      have hsz := (unhide hW).size
      have hs1 := hst i
      have hg1 := gOf_le st i
      have hgg : Hid (gG st i = min 255 (gOf st i + st i % 3)) := rfl
      have hgn : Hid (gOf st (i + 1) = min 255 (gOf st i + st i % 3)) := rfl
      generalize st i = s1 at hx hs1 hgg hgn
      generalize gOf st i = g1 at *
      have hown := (unhide hW).ch
      obtain ⟨i5, hi5, hz5⟩ := Option.map_eq_some_iff.1 inf5
      simp only [Prod.mk.injEq] at hz5
      have hz5 := hz5.2.1
      have hroom : 2 * i + 2 ≤ 2 * n := by omega
      have hone : ∀ u ∈ [Value.int .u8 (97 + (i : Int) / 26), .int .u8 (97 + (i : Int) % 26)], u.oneCell' = true := by
        intro u hu
        simp at hu
        rcases hu with rfl | rfl <;> rfl
      by_cases hgt : (255 : Int) < (g1 : Int) + (s1 : Int) % 3
      · go_wp2_with (first
          | (at_builtin; go_must (refine wpList_append_own_spare _ rfl (.tmp 61) (.tmp 70) 23 rfl w.heap.size 5 i5 1 Yba.underlying23 hi5 hz5 (w.heap.size + 1) (2 * i) (2 * n) _ rfl ((ownsRow_setCell_other hown (a := ⟨w.heap.size, i, none⟩) (by simp [Value.ownBlock]) _).alloc _) ⟨wr.heap.size, 0, none⟩ 2 2 [.int .u8 (97 + (i : Int) / 26), .int .u8 (97 + (i : Int) % 26)] rfl rfl (by simpa using two_new (wr.setCell ⟨w.heap.size, i, none⟩ (.int .i64 255)) _ _ 5) hone hroom ?_); intro w1 hown1 hgrow1)
          | go_in)
        refine ⟨⟨i + 1, by omega, rfl, ?_, rfl, (unhide hW).step' hlt 255 (by have := unhide hgg; omega) hown1 _ hgrow1⟩, by simp [intOf]; omega⟩
        have := unhide hgn
        exact congrArg (Value.int .i64) (by omega)
      · have hlin : Hid (((g1 : Int) + (s1 : Int) % 3) = ((gG st i : Nat) : Int)) := by have := unhide hgg; unfold Hid; omega
        go_wp2_with (first
          | (at_builtin; go_must (refine wpList_append_own_spare _ rfl (.tmp 61) (.tmp 70) 23 rfl w.heap.size 5 i5 1 Yba.underlying23 hi5 hz5 (w.heap.size + 1) (2 * i) (2 * n) _ rfl ((ownsRow_setCell_other hown (a := ⟨w.heap.size, i, none⟩) (by simp [Value.ownBlock]) _).alloc _) ⟨wr.heap.size, 0, none⟩ 2 2 [.int .u8 (97 + (i : Int) / 26), .int .u8 (97 + (i : Int) % 26)] rfl rfl (by simpa using two_new (wr.setCell ⟨w.heap.size, i, none⟩ (.int .i64 ((g1 : Int) + (s1 : Int) % 3))) _ _ 5) hone hroom ?_); intro w1 hown1 hgrow1)
          | go_in)
        refine ⟨⟨i + 1, by omega, rfl, ?_, rfl, (unhide hW).step' hlt _ (unhide hlin) hown1 _ hgrow1⟩, by simp [intOf]; omega⟩
        have := unhide hgn
        exact congrArg (Value.int .i64) (by omega)
    · obtain rfl : n = i := by omega
      clear hm24 hm23
      have hWA := hW
      clear hW
      rename World => wA
      have hszA := (unhide hWA).size
      go_wp2_with fail
      go_loopw [19] (fun iv wr => ∃ i : Nat, i ≤ n ∧ iv = .int .i64 (i : Int) ∧ Hid (LoopB wA wr n i (gG st) sh rm (fun k => c28[k]?.getD undef))) (fun iv _ => n - (intOf iv).toNat)
      case atStart => exact ⟨0, Nat.zero_le _, rfl, LoopB.start wA n c28 (unhide H28) _ _ _⟩
      case round =>
        obtain ⟨i, hi, rfl, hW⟩ := hrel
        by_cases hlt : i < n
        · rcases unhide HI with hI | ⟨b, o, rfl, hc⟩
          · omega
          have hbl := World.block_lt_of_cell? _ _ (hc i hlt).2.1
          have e1 := cell_stays (unhide hW).bel (cell_stays (unhide hWA).bel (hc i hlt).2.1)
          have e2 := cell_stays (unhide hW).bel (cell_stays (unhide hWA).bel (hc i hlt).2.2)
          have e0 := cell_stays (unhide hW).bel ((unhide hWA).gs.cell hlt)
          rw [if_pos hlt] at e0
          have ht36 := there_of_row (unhide hW).sl (i * 36) 36 (by omega)
          have hSB := (unhide hW).sl.lt
          have hg255 : gG st i ≤ 255 := gOf_le st (i + 1)
          clear hc
          have i0 : (0 : Int) ≤ (i : Int) := by omega
          have i1 : (i : Int) < (n : Int) := by omega
          have Ht36 := hide ht36
          have hw64 : IntKind.i64.wrap (2 * (i : Int)) = 2 * (i : Int) := by rw [IntKind.wrap_i64]; omega
          have hw32 : IntKind.i32.wrap (2 * (i : Int)) = 2 * (i : Int) := by rw [IntKind.wrap_i32]; omega
          clear ht36
          go_wp2_with fail
          refine wp_region_held_drew (S := fun w' => w'.cell? ⟨w.heap.size, i, none⟩ = some (.int .i64 ((gG st i : Nat) : Int)) ∧ w'.cell? ⟨b, o + i * 3 + 1, none⟩ = some (.int .u64 ((sh i : Nat) : Int)) ∧ w'.cell? ⟨b, o + i * 3 + 2, none⟩ = some (.bool (rm i))) (by kernel_rfl) ⟨e0, e1, e2⟩ (fun hHeld => ?_)
          refine wpAnyH_take (i := 0) (oi := { dst := some 79, op := Op.move (Operand.tmp 18), type := 28, pos := "zz_law_s3509a.go:93", after := _, guard := none }) (v := ?_) rfl (by kernel_rfl) (by kernel_rfl) (by kernel_rfl) (fun _ _ _ h => h) (Or.inl ⟨by rfl, ?_⟩) (by assumption) ?_
          rotate_left 1
          · (intro w hSw; (try dsimp only at hSw); go_simp <;> with_reducible rfl)
          try simp only [Act.put, List.setIfInBounds_toArray, List.set_cons_zero, List.set_cons_succ]
          refine wpAnyH_take (i := 1) (oi := { dst := some 80, op := Op.move (Operand.tmp 19), type := 3, pos := "zz_law_s3509a.go:93", after := _, guard := none }) (v := ?_) rfl (by kernel_rfl) (by kernel_rfl) (by kernel_rfl) (fun _ _ _ h => h) (Or.inl ⟨by rfl, ?_⟩) (by assumption) ?_
          rotate_left 1
          · (intro w hSw; (try dsimp only at hSw); go_simp <;> with_reducible rfl)
          try simp only [Act.put, List.setIfInBounds_toArray, List.set_cons_zero, List.set_cons_succ]
          refine wpAnyH_take (i := 2) (oi := { dst := some 81, op := Op.move (Operand.tmp 14), type := 24, pos := "zz_law_s3509a.go:93", after := _, guard := none }) (v := ?_) rfl (by kernel_rfl) (by kernel_rfl) (by kernel_rfl) (fun _ _ _ h => h) (Or.inl ⟨by rfl, ?_⟩) (by assumption) ?_
          rotate_left 1
          · (intro w hSw; (try dsimp only at hSw); go_simp <;> with_reducible rfl)
          try simp only [Act.put, List.setIfInBounds_toArray, List.set_cons_zero, List.set_cons_succ]
          refine wpAnyH_take (i := 3) (oi := { dst := some 82, op := Op.move (Operand.tmp 19), type := 3, pos := "zz_law_s3509a.go:93", after := _, guard := none }) (v := ?_) rfl (by kernel_rfl) (by kernel_rfl) (by kernel_rfl) (fun _ _ _ h => h) (Or.inl ⟨by rfl, ?_⟩) (by assumption) ?_
          rotate_left 1
          · (intro w hSw; (try dsimp only at hSw); go_simp <;> with_reducible rfl)
          try simp only [Act.put, List.setIfInBounds_toArray, List.set_cons_zero, List.set_cons_succ]
          refine wpAnyH_take (i := 4) (oi := { dst := some 83, op := Op.indexAddr 24 (Operand.tmp 81) (Operand.tmp 82), type := 0, pos := "zz_law_s3509a.go:93", after := _, guard := none }) (v := ?_) rfl (by kernel_rfl) (by kernel_rfl) (by kernel_rfl) (fun _ _ _ h => h) (Or.inl ⟨by rfl, ?_⟩) (by assumption) ?_
          rotate_left 1
          · (intro w hSw; (try dsimp only at hSw); go_simp <;> with_reducible rfl)
          try simp only [Act.put, List.setIfInBounds_toArray, List.set_cons_zero, List.set_cons_succ]
          refine wpAnyH_take (i := 5) (oi := { dst := some 84, op := Op.load 3 (Operand.tmp 83), type := 3, pos := "zz_law_s3509a.go:93", after := _, guard := none }) (v := ?_) rfl (by kernel_rfl) (by kernel_rfl) (by kernel_rfl) (fun _ _ _ h => h) (Or.inl ⟨by rfl, ?_⟩) (by assumption) ?_
          rotate_left 1
          · (intro w hSw; (try dsimp only at hSw); go_simp <;> with_reducible rfl)
          try simp only [Act.put, List.setIfInBounds_toArray, List.set_cons_zero, List.set_cons_succ]
          refine wpAnyH_take (i := 7) (oi := { dst := some 86, op := Op.move (Operand.tmp 19), type := 3, pos := "zz_law_s3509a.go:93", after := _, guard := none }) (v := ?_) rfl (by kernel_rfl) (by kernel_rfl) (by kernel_rfl) (fun _ _ _ h => h) (Or.inl ⟨by rfl, ?_⟩) (by assumption) ?_
          rotate_left 1
          · (intro w hSw; (try dsimp only at hSw); go_simp <;> with_reducible rfl)
          try simp only [Act.put, List.setIfInBounds_toArray, List.set_cons_zero, List.set_cons_succ]
          refine wpAnyH_take (i := 8) (oi := { dst := some 87, op := Op.binOp BinOp.mul 3 (Operand.const (Value.int IntKind.i64 2)) (Operand.tmp 86) 3, type := 3, pos := "zz_law_s3509a.go:93", after := _, guard := none }) (v := ?_) rfl (by kernel_rfl) (by kernel_rfl) (by kernel_rfl) (fun _ _ _ h => h) (Or.inl ⟨by rfl, ?_⟩) (by assumption) ?_
          rotate_left 1
          · (intro w hSw; (try dsimp only at hSw); go_simp <;> with_reducible rfl)
          try simp only [Act.put, List.setIfInBounds_toArray, List.set_cons_zero, List.set_cons_succ]
          refine wpAnyH_take (i := 9) (oi := { dst := some 88, op := Op.convert 3 21 (Operand.tmp 87), type := 21, pos := "zz_law_s3509a.go:93", after := _, guard := none }) (v := ?_) rfl (by kernel_rfl) (by kernel_rfl) (by kernel_rfl) (fun _ _ _ h => h) (Or.inl ⟨by rfl, ?_⟩) (by assumption) ?_
          rotate_left 1
          · (intro w hSw; (try dsimp only at hSw); go_simp <;> with_reducible rfl)
          try simp only [Act.put, List.setIfInBounds_toArray, List.set_cons_zero, List.set_cons_succ]
          refine wpAnyH_take (i := 10) (oi := { dst := some 89, op := Op.build 33 #[(0, Operand.const (Value.int IntKind.i32 0)), (1, Operand.tmp 88), (2, Operand.const (Value.int IntKind.i32 2))], type := 33, pos := "zz_law_s3509a.go:93", after := _, guard := none }) (v := ?_) rfl (by kernel_rfl) (by kernel_rfl) (by kernel_rfl) (fun _ _ _ h => h) (Or.inl ⟨by rfl, ?_⟩) (by assumption) ?_
          rotate_left 1
          · (intro w hSw; (try dsimp only at hSw); go_simp <;> with_reducible rfl)
          try simp only [Act.put, List.setIfInBounds_toArray, List.set_cons_zero, List.set_cons_succ]
          refine wpAnyH_take (i := 11) (oi := { dst := some 90, op := Op.move (Operand.tmp 0), type := 22, pos := "zz_law_s3509a.go:93", after := _, guard := none }) (v := ?_) rfl (by kernel_rfl) (by kernel_rfl) (by kernel_rfl) (fun _ _ _ h => h) (Or.inl ⟨by rfl, ?_⟩) (by assumption) ?_
          rotate_left 1
          · (intro w hSw; (try dsimp only at hSw); go_simp <;> with_reducible rfl)
          try simp only [Act.put, List.setIfInBounds_toArray, List.set_cons_zero, List.set_cons_succ]
          refine wpAnyH_take (i := 12) (oi := { dst := some 91, op := Op.move (Operand.tmp 19), type := 3, pos := "zz_law_s3509a.go:93", after := _, guard := none }) (v := ?_) rfl (by kernel_rfl) (by kernel_rfl) (by kernel_rfl) (fun _ _ _ h => h) (Or.inl ⟨by rfl, ?_⟩) (by assumption) ?_
          rotate_left 1
          · (intro w hSw; (try dsimp only at hSw); go_simp <;> with_reducible rfl)
          try simp only [Act.put, List.setIfInBounds_toArray, List.set_cons_zero, List.set_cons_succ]
          refine wpAnyH_take (i := 13) (oi := { dst := some 92, op := Op.indexAddr 22 (Operand.tmp 90) (Operand.tmp 91), type := 0, pos := "zz_law_s3509a.go:93", after := _, guard := none }) (v := ?_) rfl (by kernel_rfl) (by kernel_rfl) (by kernel_rfl) (fun _ _ _ h => h) (Or.inl ⟨by rfl, ?_⟩) (by assumption) ?_
          rotate_left 1
          · (intro w hSw; (try dsimp only at hSw); go_simp <;> with_reducible rfl)
          try simp only [Act.put, List.setIfInBounds_toArray, List.set_cons_zero, List.set_cons_succ]
          refine wpAnyH_take (i := 14) (oi := { dst := some 93, op := Op.fieldAddr 27 (Operand.tmp 92) 2, type := 0, pos := "zz_law_s3509a.go:93", after := _, guard := none }) (v := ?_) rfl (by kernel_rfl) (by kernel_rfl) (by kernel_rfl) (fun _ _ _ h => h) (Or.inl ⟨by rfl, ?_⟩) (by assumption) ?_
          rotate_left 1
          · (intro w hSw; (try dsimp only at hSw); go_simp <;> with_reducible rfl)
          try simp only [Act.put, List.setIfInBounds_toArray, List.set_cons_zero, List.set_cons_succ]
          refine wpAnyH_take (i := 15) (oi := { dst := some 94, op := Op.load 4 (Operand.tmp 93), type := 4, pos := "zz_law_s3509a.go:93", after := _, guard := none }) (v := ?_) rfl (by kernel_rfl) (by kernel_rfl) (by kernel_rfl) (fun _ _ _ h => h) (Or.inl ⟨by rfl, ?_⟩) (by assumption) ?_
          rotate_left 1
          · (intro w hSw; (try dsimp only at hSw); go_simp <;> with_reducible rfl)
          try simp only [Act.put, List.setIfInBounds_toArray, List.set_cons_zero, List.set_cons_succ]
          refine wpAnyH_take (i := 16) (oi := { dst := some 95, op := Op.build 35 #[(0, Operand.tmp 89), (1, Operand.const (Value.int IntKind.i32 2)), (2, Operand.const (Value.int IntKind.u64 1)), (3, Operand.tmp 94)], type := 35, pos := "zz_law_s3509a.go:93", after := _, guard := none }) (v := ?_) rfl (by kernel_rfl) (by kernel_rfl) (by kernel_rfl) (fun _ _ _ h => h) (Or.inl ⟨by rfl, ?_⟩) (by assumption) ?_
          rotate_left 1
          · (intro w hSw; (try dsimp only at hSw); go_simp <;> with_reducible rfl)
          try simp only [Act.put, List.setIfInBounds_toArray, List.set_cons_zero, List.set_cons_succ]
          refine wpAnyH_take (i := 17) (oi := { dst := some 96, op := Op.move (Operand.tmp 0), type := 22, pos := "zz_law_s3509a.go:93", after := _, guard := none }) (v := ?_) rfl (by kernel_rfl) (by kernel_rfl) (by kernel_rfl) (fun _ _ _ h => h) (Or.inl ⟨by rfl, ?_⟩) (by assumption) ?_
          rotate_left 1
          · (intro w hSw; (try dsimp only at hSw); go_simp <;> with_reducible rfl)
          try simp only [Act.put, List.setIfInBounds_toArray, List.set_cons_zero, List.set_cons_succ]
          refine wpAnyH_take (i := 18) (oi := { dst := some 97, op := Op.move (Operand.tmp 19), type := 3, pos := "zz_law_s3509a.go:93", after := _, guard := none }) (v := ?_) rfl (by kernel_rfl) (by kernel_rfl) (by kernel_rfl) (fun _ _ _ h => h) (Or.inl ⟨by rfl, ?_⟩) (by assumption) ?_
          rotate_left 1
          · (intro w hSw; (try dsimp only at hSw); go_simp <;> with_reducible rfl)
          try simp only [Act.put, List.setIfInBounds_toArray, List.set_cons_zero, List.set_cons_succ]
          refine wpAnyH_take (i := 19) (oi := { dst := some 98, op := Op.indexAddr 22 (Operand.tmp 96) (Operand.tmp 97), type := 0, pos := "zz_law_s3509a.go:93", after := _, guard := none }) (v := ?_) rfl (by kernel_rfl) (by kernel_rfl) (by kernel_rfl) (fun _ _ _ h => h) (Or.inl ⟨by rfl, ?_⟩) (by assumption) ?_
          rotate_left 1
          · (intro w hSw; (try dsimp only at hSw); go_simp <;> with_reducible rfl)
          try simp only [Act.put, List.setIfInBounds_toArray, List.set_cons_zero, List.set_cons_succ]
          refine wpAnyH_take (i := 20) (oi := { dst := some 99, op := Op.fieldAddr 27 (Operand.tmp 98) 1, type := 0, pos := "zz_law_s3509a.go:93", after := _, guard := none }) (v := ?_) rfl (by kernel_rfl) (by kernel_rfl) (by kernel_rfl) (fun _ _ _ h => h) (Or.inl ⟨by rfl, ?_⟩) (by assumption) ?_
          rotate_left 1
          · (intro w hSw; (try dsimp only at hSw); go_simp <;> with_reducible rfl)
          try simp only [Act.put, List.setIfInBounds_toArray, List.set_cons_zero, List.set_cons_succ]
          refine wpAnyH_take (i := 21) (oi := { dst := some 100, op := Op.load 25 (Operand.tmp 99), type := 25, pos := "zz_law_s3509a.go:93", after := _, guard := none }) (v := ?_) rfl (by kernel_rfl) (by kernel_rfl) (by kernel_rfl) (fun _ _ _ h => h) (Or.inl ⟨by rfl, ?_⟩) (by assumption) ?_
          rotate_left 1
          · (intro w hSw; (try dsimp only at hSw); go_simp <;> with_reducible rfl)
          try simp only [Act.put, List.setIfInBounds_toArray, List.set_cons_zero, List.set_cons_succ]
          refine wpAnyH_ready (rs := [6]) (by kernel_rfl) (by simp) ?_
          refine AllReadyH.cons (o := { dst := some 85, op := Op.call { callee := Callee.value (Operand.func 4), args := #[Operand.tmp 84], argTypes := #[3] }, type := 30, pos := "zz_law_s3509a.go:93", after := _, guard := none }) rfl (fun K hK => ?_) AllReadyH.nil
          go_simp
          refine (id_any ((gG st i : Nat) : Int) _ (by omega) (by omega)).mono ?_
          rintro e w1 ⟨rfl, hB0⟩
          try (go_wp2_with fail)
          refine hK.out _ _ (⟨cell_stays hB0 e0, cell_stays hB0 e1, cell_stays hB0 e2⟩) (fun hHeld => ?_)
          clear hK K
          try simp only [Act.put, List.setIfInBounds_toArray, List.set_cons_zero, List.set_cons_succ]
          refine wpAnyH_take (i := 22) (oi := { dst := some 101, op := Op.build 40 #[(0, Operand.tmp 85), (1, Operand.tmp 95), (2, Operand.tmp 100), (4, Operand.const (Value.int IntKind.i32 (-1))), (5, Operand.const (Value.int IntKind.i32 (-1))), (7, Operand.const (Value.int IntKind.i32 (-1))), (9, Operand.const (Value.bool true))], type := 40, pos := "zz_law_s3509a.go:93", after := _, guard := none }) rfl (by kernel_rfl) (by kernel_rfl) (by kernel_rfl) (fun _ _ _ h => h) (yields_build7 (by rfl) 40 0 1 2 4 5 7 9 (.tmp 85) (.tmp 95) (.tmp 100) _ _ _ _ rfl (.agg (idArr ((gG st i : Nat) : Int))) (.agg #[.int .i32 0, .int .i32 (2 * (i : Int)), .int .i32 2, .int .i32 2, .int .u64 1, .bool (rm i)]) (.int .u64 ((sh i : Nat) : Int)) (.int .i32 (-1)) (.int .i32 (-1)) (.int .i32 (-1)) (.bool true) rfl rfl rfl rfl rfl rfl rfl (slotList (gG st i) i (rm i) (sh i)).toArray (build40 (gG st i) i (rm i) (sh i) (2 * (i : Int)) (by omega))) (by assumption) ?_
          try simp only [Act.put, List.setIfInBounds_toArray, List.set_cons_zero, List.set_cons_succ]
          refine wpAnyH_take (i := 23) (oi := { dst := some 102, op := Op.indexAddr 28 (Operand.tmp 79) (Operand.tmp 80), type := 0, pos := "zz_law_s3509a.go:93", after := _, guard := none }) (v := ?_) rfl (by kernel_rfl) (by kernel_rfl) (by kernel_rfl) (fun _ _ _ h => h) (Or.inl ⟨by rfl, ?_⟩) (by assumption) ?_
          rotate_left 1
          · (intro w hSw; (try dsimp only at hSw); go_simp <;> with_reducible rfl)
          try simp only [Act.put, List.setIfInBounds_toArray, List.set_cons_zero, List.set_cons_succ]
          refine wpAnyH_ready (rs := [24]) (by kernel_rfl) (by simp) ?_
          refine AllReadyH.cons (o := { dst := none, op := Op.store 40 (Operand.tmp 102) (Operand.tmp 101), type := 0, pos := "zz_law_s3509a.go:93", after := _, guard := none }) rfl (fun K hK => ?_) AllReadyH.nil
          rw [if_pos (by rfl)]
          refine wp_store_mid _ _ _ rfl wA.heap.size (i * 36) (slotList (gG st i) i (rm i) (sh i)).toArray rfl rfl (fun j hj => ?_) (info40.trans (by rw [List.size_toArray, slotList_len])) (slot_one _ _ _ _) ?_
          · have hlt36 : j < 36 := by rw [List.size_toArray, slotList_len] at hj; exact hj
            exact ⟨by rw [(hB0.cell (p := ⟨wA.heap.size, i * 36 + j, none⟩) hSB)]; exact (unhide Ht36 j hlt36).1, by rw [(hB0.frozen (p := ⟨wA.heap.size, i * 36 + j, none⟩) hSB)]; exact (unhide Ht36 j hlt36).2⟩
          simp only [Act.put, List.setIfInBounds_toArray, List.set_cons_zero, List.set_cons_succ, List.toList_toArray]
          refine hK.out _ _ (⟨cell_setCells_far (by show w.heap.size ≠ wA.heap.size; omega) (cell_stays hB0 e0), cell_setCells_far (by show b ≠ wA.heap.size; omega) (cell_stays hB0 e1), cell_setCells_far (by show b ≠ wA.heap.size; omega) (cell_stays hB0 e2)⟩) (fun hHeld => ?_)
          clear hK K
          try simp only [Act.put, List.setIfInBounds_toArray, List.set_cons_zero, List.set_cons_succ]
          refine wpAnyH_done (by kernel_rfl) ?_ _
          go_wp2_with fail
          have hBd := below_more ((Below.refl wr.heap.size wr).drew) hB0
          exact ⟨⟨i + 1, by omega, rfl, (unhide hW).step hlt hBd⟩, by simp [intOf]; omega⟩
        · obtain rfl : n = i := by omega
          have hWB := hW
          clear hW
          rename World => wB
          have hmm := @run_makeMap Yba.prog
          have hsB := (unhide hWB).sl.lt
          go_wp2_with fail
          refine (build_all (st := wB.heap.size + 1 + 1 + 1) (SB := wA.heap.size) (kb := wB.heap.size + 1 + 1 + 1 + 1) (n := n) (B := w.heap.size) (cp := cp) (np := np) (ap := ap) (ps := ps) (g := gG st) (sh := sh) (rm := rm) hn hps (unhide Hpl) hsh (by omega) (by omega) (by omega) (by omega) (by omega) n 0 0 T0 (storeW wB wA.heap.size (w.heap.size + 1) n) 0 ((n : Int) - 1) rfl (by omega) (by omega) (by omega) (storeW_slots _ _ _ _) ?_ (storeW_k _ _ _ _) ?_).mono ?_
          · refine ((unhide hWB).sl.of_block ((storeW_below wB wA.heap.size (w.heap.size + 1) n).block _ hsB)).congr fun k hk => ?_
            rw [if_pos hk]
          · exact (unhide HP).later ((below_more (unhide hWA).bel (unhide hWB).bel).trans ((storeW_below wB wA.heap.size (w.heap.size + 1) n).mono (by omega)))
          rintro e w2 ⟨t, T', rfl, hbt⟩
          have hSt := hide (stands hn (unhide HI) (unhide hWA) (unhide hWB) hbt)
          have h5 : w2.cell? ⟨wB.heap.size + 1 + 1 + 1, 5, none⟩ = some (.int .i32 (-1)) := (hbt.two.cell (p := ⟨wB.heap.size + 1 + 1 + 1, 5, none⟩) (by show wB.heap.size + 1 + 1 + 1 ≠ wA.heap.size; omega) (by show wB.heap.size + 1 + 1 + 1 ≠ wB.heap.size + 1 + 1 + 1 + 1; omega)).trans (storeW_order _ _ _ _)
          have f5 : w2.frozen? ⟨wB.heap.size + 1 + 1 + 1, 5, none⟩ = false := (hbt.two.frozen (p := ⟨wB.heap.size + 1 + 1 + 1, 5, none⟩) (by show wB.heap.size + 1 + 1 + 1 ≠ wA.heap.size; omega) (by show wB.heap.size + 1 + 1 + 1 ≠ wB.heap.size + 1 + 1 + 1 + 1; omega)).trans (storeW_froz _ _ _ _)
          clear hbt hmm
          go_upto_region 23 with fail
          clear h5 f5
          have hszC : w.heap.size + 2 ≤ wA.heap.size := hszA
          generalize w2.setCell ⟨wB.heap.size + 1 + 1 + 1, 5, none⟩ (.int .i32 t) = wC at hSt ⊢
          have hstC := World.block_lt_of_cell? _ _ (unhide hSt).order
          clear hWA hWB hszA hszC
          have hgsC := fun i hi => (unhide hSt).gs i hi
          have HgsC := hide hgsC
          clear hgsC
          go_upto_block 4 with fail
          go_cut [22, 23] (fun s22 s23 wx => ∃ (mg : Nat) (mk : ByteArray), mg ≤ 255 ∧ s22 = .int .i64 (mg : Int) ∧ s23 = .string mk ∧ Below wC.heap.size wC wx)
          case first =>
            by_cases hm1 : mode % 3 = 1
            · have b1 : ((mode : Int) % 3 == 1) = true := by simp; omega
              have Hm1 := hide hm1
              clear hm1
              by_cases hz : 0 < n
              · have z1 : decide (0 < n) = true := by simp [hz]
                have z2 : decide ((0 : Int) < (n : Int)) = true := by simp [hz]
                have hj : mp % n < n := Nat.mod_lt _ hz
                have hj2 : mp % n < 600 := by omega
                have q : wC.cell? ⟨w.heap.size, ((mp : Int) % (n : Int)).toNat, none⟩ = some (.int .i64 ((gG st (mp % n) : Nat) : Int)) := by
                  rw [show ((mp : Int) % (n : Int)).toNat = mp % n from rfl]; exact unhide HgsC _ hj
                have m0 : (0 : Int) ≤ (mp : Int) % (n : Int) := Int.emod_nonneg _ (by omega)
                have m1 : (mp : Int) % (n : Int) < (n : Int) := Int.emod_lt_of_pos _ (by omega)
                have hg255 : gG st (mp % n) ≤ 255 := gOf_le st _
                go_wp2_with fail
                go_region_held3 (fun w' => w'.cell? ⟨w.heap.size, ((mp : Int) % (n : Int)).toNat, none⟩ = some (.int .i64 ((gG st (mp % n) : Nat) : Int)))
                  ((first | exact q | exact cell_stays hB0 q))
                  ((go_at_call 6; refine (key_any (mp % n) _ hj2).mono ?_; rintro e w1 ⟨rfl, hB0⟩))
                all_goals (go_wp2_with fail; go_meet; exact ⟨gG st (mp % n), _, hg255, rfl, rfl, below_more ((Below.refl wC.heap.size wC).drew) hB0⟩)
              · have z1 : decide (0 < n) = false := by simp; omega
                have z2 : decide ((0 : Int) < (n : Int)) = false := by simp; omega
                have Hz := hide hz
                clear hz
                go_wp2_with fail
                go_meet
                exact ⟨mid, _, hid, rfl, rfl, Below.refl _ _⟩
            · have b1 : ((mode : Int) % 3 == 1) = false := by simp; omega
              have Hm1 := hide hm1
              clear hm1
              by_cases hm2 : mode % 3 = 2
              · have b2 : ((mode : Int) % 3 == 2) = true := by simp; omega
                have Hm2 := hide hm2
                clear hm2
                go_wp2_with fail
                go_meet
                exact ⟨mid, mkS, hid, rfl, rfl, Below.refl _ _⟩
              · have b2 : ((mode : Int) % 3 == 2) = false := by simp; omega
                have Hm2 := hide hm2
                clear hm2
                go_wp2_with fail
                go_meet
                exact ⟨mid, _, hid, rfl, rfl, Below.refl _ _⟩
          case rest =>
          obtain ⟨mg, mk, hmg, rfl, rfl, hbD⟩ := hcut
          exact (by assumption : ∀ (a : Act) (w0 : World), Code.wp Yba.prog tail14 (bodyPost Yba.prog Yba.f3 fun e w' => e = .returned (.bool true) ∧ Below w.heap.size w w') a w0 → _) _ _ (law_t14 hn hmg hsh (unhide H28) hm28 (unhide hSt) hbD)

end Go.Proofs.Ybulkbtqm

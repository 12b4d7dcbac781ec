import Derived.Test.YbulkbtqmLawG
import Derived.Deep.CutBlock
import Derived.Deep.DeepCutAuto
namespace Go.Proofs.Ybulkbtqm
open Go.RowKit
set_option linter.unusedVariables false
set_option linter.unusedSimpArgs false

set_option maxHeartbeats 4000000 in
set_option maxRecDepth 100000 in
theorem law_t14 {w wA wB wC wc : World} {ai : Option Addr} {n ci mg : Nat} {mk : ByteArray} {st sh : Nat → Nat} {rm : Nat → Bool} {T' : Nat → TD} {t : Int} {c28 : Array Value} (hn : n ≤ 600) (hmg : mg ≤ 255) (hsh : ∀ i, sh i < 18446744073709551616)
    (h28 : c28.size = n * 36) (hm28 : ∀ w : World, (Instr.makeSlice 28 (.int .i64 (n : Int)) (.int .i64 (n : Int))).run Yba.prog w = .ok (.slice (some ⟨w.heap.size, 0, none⟩) n n) (w.alloc (.cells c28 40)))
    (hSt0 : Stands w wC w.heap.size (wB.heap.size + 1 + 1 + 1) wA.heap.size (wB.heap.size + 1) (w.heap.size + 1) n ai st sh rm T' t) (hbD : Below wC.heap.size wC wc) {u1 u2 u3 u4 u5 u6 u7 u8 u9 u10 u11 u12 u15 u16 u17 u18 u19 u21 u24 u25 u26 u27 u28 u29 u30 u31 u32 u33 u34 u35 u36 u37 u38 u39 u40 u41 u42 u43 u44 u45 u46 u47 u48 u49 u50 u51 u52 u53 u54 u55 u56 u57 u58 u59 u60 u61 u62 u63 u64 u65 u66 u67 u68 u69 u70 u71 u72 u73 u74 u75 u76 u77 u78 u79 u80 u81 u82 u83 u84 u85 u86 u87 u88 u89 u90 u91 u92 u93 u94 u95 u96 u97 u98 u99 u100 u101 u102 u103 u104 u105 u106 u107 u108 u109 u110 u111 u112 u113 u114 u115 u116 u117 u118 u119 u120 u121 u122 u123 u124 u125 u126 u127 u128 u129 u130 u131 u132 u133 u134 u135 u136 u137 u138 u139 u140 u141 u142 u143 u144 u145 u146 u147 u148 u149 u150 u151 u152 u153 u154 u155 u156 u157 u158 u159 u160 u161 u162 u163 u164 u165 u166 u167 u168 u169 u170 u171 u172 u173 u174 u175 u176 u177 u178 u179 u180 u181 u182 u183 u184 u185 u186 u187 u188 u189 u190 u191 u192 u193 u194 u195 u196 u197 u198 u199 u200 u201 u202 u203 u204 u205 u206 u207 u208 u209 u210 u211 u212 u213 u214 u215 u216 u217 u218 u219 u220 u221 u222 u223 u224 u225 u226 u227 : Value} :
    Code.wp Yba.prog tail14 (bodyPost Yba.prog Yba.f3 fun e w' => e = .returned (.bool true) ∧ Below w.heap.size w w') ⟨#[.slice ai n ci, u1, u2, u3, u4, u5, u6, u7, u8, u9, u10, u11, u12, .int .i64 (n : Int), .slice (some ⟨w.heap.size, 0, none⟩) n n, u15, u16, u17, u18, u19, .pointer (some ⟨wB.heap.size + 1 + 1 + 1, 0, none⟩), u21, .int .i64 (mg : Int), .string mk, u24, u25, u26, u27, u28, u29, u30, u31, u32, u33, u34, u35, u36, u37, u38, u39, u40, u41, u42, u43, u44, u45, u46, u47, u48, u49, u50, u51, u52, u53, u54, u55, u56, u57, u58, u59, u60, u61, u62, u63, u64, u65, u66, u67, u68, u69, u70, u71, u72, u73, u74, u75, u76, u77, u78, u79, u80, u81, u82, u83, u84, u85, u86, u87, u88, u89, u90, u91, u92, u93, u94, u95, u96, u97, u98, u99, u100, u101, u102, u103, u104, u105, u106, u107, u108, u109, u110, u111, u112, u113, u114, u115, u116, u117, u118, u119, u120, u121, u122, u123, u124, u125, u126, u127, u128, u129, u130, u131, u132, u133, u134, u135, u136, u137, u138, u139, u140, u141, u142, u143, u144, u145, u146, u147, u148, u149, u150, u151, u152, u153, u154, u155, u156, u157, u158, u159, u160, u161, u162, u163, u164, u165, u166, u167, u168, u169, u170, u171, u172, u173, u174, u175, u176, u177, u178, u179, u180, u181, u182, u183, u184, u185, u186, u187, u188, u189, u190, u191, u192, u193, u194, u195, u196, u197, u198, u199, u200, u201, u202, u203, u204, u205, u206, u207, u208, u209, u210, u211, u212, u213, u214, u215, u216, u217, u218, u219, u220, u221, u222, u223, u224, u225, u226, u227], []⟩ wc := by
  have hstC : wB.heap.size + 1 + 1 + 1 < wC.heap.size := World.block_lt_of_cell? _ _ hSt0.order
  have hSt := hide hSt0
  have H28 := hide h28
  clear hSt0 h28
  conv => arg 2; simp only [tail14, Yba.f3, Option.getD_some, sndSeq]
  go_wp2_with fail
  refine (id_any (mg : Int) _ (by omega) (by omega)).mono ?_
  rintro e wD ⟨rfl, hbI⟩
  go_upto_region 32 with (first
    | (guard_target = wpList _ _ _ (⟨_, Op.build 60 _, _, _, _, _⟩ :: _) _ _; go_must (refine wpList_build_two rfl 60 0 1 _ _ rfl (.agg (idArr (mg : Int))) (.string mk) rfl rfl (markArr mg mk) (build60 mg mk _) ?_))
    | (guard_target = wpList _ _ _ (⟨_, Op.store 60 _ _, _, _, _, _⟩ :: _) _ _; go_must (refine wpList_store_mid rfl _ _ _ rfl wD.heap.size 0 (markArr mg mk) rfl rfl (there_new wD _ 60 21 _ rfl (Nat.le_refl _)) info60 (mark_one mg mk) ?_))
    | go_in)
  have hE1 : Hid (((wD.alloc (.cells #[.int .u8 0, .int .u8 0, .int .u8 0, .int .u8 0, .int .u8 0, .int .u8 0, .int .u8 0, .int .u8 0, .int .u8 0, .int .u8 0, .int .u8 0, .int .u8 0, .int .u8 0, .int .u8 0, .int .u8 0, .int .u8 0, .int .u8 0, .int .u8 0, .int .u8 0, .int .u8 0, .string ⟨#[]⟩] 60)).setCells wD.heap.size 0 (markList (mg : Int) mk)).rangeAt wD.heap.size 0 (markList mg mk)) := markW_range wD mg mk
  have hE2 : Below wD.heap.size wD ((wD.alloc (.cells #[.int .u8 0, .int .u8 0, .int .u8 0, .int .u8 0, .int .u8 0, .int .u8 0, .int .u8 0, .int .u8 0, .int .u8 0, .int .u8 0, .int .u8 0, .int .u8 0, .int .u8 0, .int .u8 0, .int .u8 0, .int .u8 0, .int .u8 0, .int .u8 0, .int .u8 0, .int .u8 0, .string ⟨#[]⟩] 60)).setCells wD.heap.size 0 (markList (mg : Int) mk)) := markW_below wD mg mk
  generalize (wD.alloc (.cells #[.int .u8 0, .int .u8 0, .int .u8 0, .int .u8 0, .int .u8 0, .int .u8 0, .int .u8 0, .int .u8 0, .int .u8 0, .int .u8 0, .int .u8 0, .int .u8 0, .int .u8 0, .int .u8 0, .int .u8 0, .int .u8 0, .int .u8 0, .int .u8 0, .int .u8 0, .int .u8 0, .string ⟨#[]⟩] 60)).setCells wD.heap.size 0 (markList (mg : Int) mk) = wE at hE1 hE2 ⊢
  have hSE := hide ((unhide hSt).later ((below_more hbD hbI).trans (hE2.mono (Nat.le_trans hbD.size hbI.size))))
  have hbE : wD.heap.size < wE.heap.size := by
    have := World.block_lt_of_cell? _ _ (unhide hE1 20 _ (mark20 mg mk))
    exact this
  have hstE := World.block_lt_of_cell? _ _ (unhide hSE).order
  have hgs2 : wD.heap.size ≠ wB.heap.size + 1 + 1 + 1 := by have := hbD.size; have := hbI.size; omega
  clear hbD hbI hE2 hstC
  go_wp2_with fail
  go_loopw [27] (fun iv wr => ∃ i : Nat, i ≤ n ∧ iv = .int .i64 (i : Int) ∧ Hid (LoopC wE wr n i (gG st) sh rm T' (fun k => c28[k]?.getD undef))) (fun iv _ => n - (intOf iv).toNat)
  case atStart => exact ⟨0, Nat.zero_le _, rfl, LoopC.start wE n c28 (unhide H28) _ _ _ _⟩
  case round =>
    obtain ⟨i, hi, rfl, hW⟩ := hrel
    by_cases hlt : i < n
    · have hS2 := hide ((unhide hSE).later (unhide hW).bel)
      have r1 := hide (slotL_range (unhide hS2).mem.row i hlt)
      have t1 := hide (there_of_row (unhide hW).sl (i * 36) 36 (by omega))
      have c1 := (unhide hS2).mem.slots
      have i0 : (0 : Int) ≤ (i : Int) := by omega
      have i1 : (i : Int) < (n : Int) := by omega
      go_wp2_with (first
        | (guard_target = wpList _ _ _ (⟨_, Op.load 40 _, _, _, _, _⟩ :: _) _ _; go_must (refine wpList_load_mid rfl _ _ rfl wA.heap.size (i * 36) rfl (slotL (gG st) sh rm T' i) _ (unhide r1) Yba.underlying40 rfl info40 ?_))
        | (guard_target = wpList _ _ _ (⟨_, Op.store 40 _ _, _, _, _, _⟩ :: _) _ _; go_must (refine wpList_store_mid rfl _ _ _ rfl wE.heap.size (i * 36) (slotL (gG st) sh rm T' i).toArray rfl rfl (unhide t1) info40 (slotL_one _ _ _ _ _) ?_))
        | go_in)
      exact ⟨⟨i + 1, by omega, rfl, (unhide hW).step hlt⟩, by simp [intOf]; omega⟩
    · obtain rfl : n = i := by omega
      have hWF := hW
      clear hW
      rename World => wF
      have hSF := hide ((unhide hSE).later (unhide hWF).bel)
      have hBef := hide ((unhide hWF).sl.congr (g := slotF (gG st) sh rm T') fun k hk => if_pos hk)
      have hrF : Hid (wF.rangeAt wD.heap.size 0 (markList mg mk)) := fun j v hj => cell_stays (unhide hWF).bel (unhide hE1 j v hj)
      have hmonoA : Hid (∀ i j, i ≤ j → j < 600 → inB (gG st) mg mk j = true → inB (gG st) mg mk i = true) := fun i j h hj hin => inB_mono _ (gG_mono st) mg mk i j h hj hin
      have hmono : Hid (∀ i j, i ≤ j → j < 0 + n → inB (gG st) mg mk j = true → inB (gG st) mg mk i = true) := fun i j h hj hin => unhide hmonoA i j h (by omega) hin
      have hWFb := (unhide hWF).bel
      have HWFb := hide hWFb
      clear hWFb hWF
      have KS : Hid (∀ w', Below wF.heap.size wF w' → (w'.cell? ⟨wB.heap.size + 1 + 1 + 1, 5, none⟩ = some (.int .i32 t) ∧ w'.rangeAt wD.heap.size 0 (markList mg mk))) := fun w' hb => ⟨cell_stays hb (unhide hSF).order, fun j v hj => cell_stays hb (unhide hrF j v hj)⟩
      go_upto_region 37 with fail
      go_cut [28] (fun s28 wx => ∃ rb : Nat, s28 = .pointer (some ⟨rb, 0, none⟩) ∧ Got wF wx rb (sumF (cI (inB (gG st) mg mk)) 0 n) (sumF (cV (inB (gG st) mg mk) (flF rm)) 0 n) (xorF (cV (inB (gG st) mg mk) sh) 0 n))
      case first =>
        refine wp_region_held_drew (S := fun w' => w'.cell? ⟨wB.heap.size + 1 + 1 + 1, 5, none⟩ = some (.int .i32 t) ∧ w'.rangeAt wD.heap.size 0 (markList mg mk)) (by kernel_rfl) (unhide KS _ ((Below.refl _ _).drew)) (fun hHeld => ?_)
        refine wpAnyH_take (i := 0) (oi := { dst := some 166, op := Op.move (Operand.tmp 20), type := 41, pos := "zz_law_s3509a.go:113", after := _, guard := none }) (v := ?_) rfl (by kernel_rfl) (by kernel_rfl) (by kernel_rfl) (fun _ _ _ h => h) (Or.inl ⟨by rfl, ?_⟩) (by assumption) ?_
        rotate_left 1
        · (intro w hSw; (try dsimp only at hSw); go_simp <;> with_reducible rfl)
        try simp only [Act.put, List.setIfInBounds_toArray, List.set_cons_zero, List.set_cons_succ]
        refine wpAnyH_take (i := 1) (oi := { dst := some 167, op := Op.move (Operand.tmp 20), type := 41, pos := "zz_law_s3509a.go:113", after := _, guard := none }) (v := ?_) rfl (by kernel_rfl) (by kernel_rfl) (by kernel_rfl) (fun _ _ _ h => h) (Or.inl ⟨by rfl, ?_⟩) (by assumption) ?_
        rotate_left 1
        · (intro w hSw; (try dsimp only at hSw); go_simp <;> with_reducible rfl)
        try simp only [Act.put, List.setIfInBounds_toArray, List.set_cons_zero, List.set_cons_succ]
        refine wpAnyH_take (i := 2) (oi := { dst := some 168, op := Op.nilCheck (Operand.tmp 167), type := 0, pos := "zz_law_s3509a.go:113", after := _, guard := none }) (v := ?_) rfl (by kernel_rfl) (by kernel_rfl) (by kernel_rfl) (fun _ _ _ h => h) (Or.inl ⟨by rfl, ?_⟩) (by assumption) ?_
        rotate_left 1
        · (intro w hSw; (try dsimp only at hSw); go_simp <;> with_reducible rfl)
        try simp only [Act.put, List.setIfInBounds_toArray, List.set_cons_zero, List.set_cons_succ]
        refine wpAnyH_take (i := 3) (oi := { dst := some 169, op := Op.fieldAddr 55 (Operand.tmp 168) 5, type := 0, pos := "zz_law_s3509a.go:113", after := _, guard := none }) (v := ?_) rfl (by kernel_rfl) (by kernel_rfl) (by kernel_rfl) (fun _ _ _ h => h) (Or.inl ⟨by rfl, ?_⟩) (by assumption) ?_
        rotate_left 1
        · (intro w hSw; (try dsimp only at hSw); go_simp <;> with_reducible rfl)
        try simp only [Act.put, List.setIfInBounds_toArray, List.set_cons_zero, List.set_cons_succ]
        refine wpAnyH_take (i := 4) (oi := { dst := some 170, op := Op.load 21 (Operand.tmp 169), type := 21, pos := "zz_law_s3509a.go:113", after := _, guard := none }) (v := ?_) rfl (by kernel_rfl) (by kernel_rfl) (by kernel_rfl) (fun _ _ _ h => h) (Or.inl ⟨by rfl, ?_⟩) (by assumption) ?_
        rotate_left 1
        · (intro w hSw; (try dsimp only at hSw); go_simp <;> with_reducible rfl)
        try simp only [Act.put, List.setIfInBounds_toArray, List.set_cons_zero, List.set_cons_succ]
        refine wpAnyH_take (i := 5) (oi := { dst := some 171, op := Op.load 60 (Operand.tmp 25), type := 60, pos := "zz_law_s3509a.go:113", after := _, guard := none }) rfl (by kernel_rfl) (by kernel_rfl) (by kernel_rfl) (fun _ _ _ h => h) (yieldsIf_load_mid (by rfl) _ _ rfl wD.heap.size 0 rfl (markList mg mk) _ (fun w h => h.2) Yba.underlying60 rfl info60) (by assumption) ?_
        try simp only [Act.put, List.setIfInBounds_toArray, List.set_cons_zero, List.set_cons_succ]
        refine wpAnyH_ready (rs := [6, 7]) (by kernel_rfl) (by simp) ?_
        refine AllReadyH.cons (o := { dst := some 172, op := Op.call { callee := Callee.value (Operand.func 7), args := #[Operand.tmp 166, Operand.tmp 170, Operand.tmp 171], argTypes := #[41, 21, 60] }, type := 37, pos := "zz_law_s3509a.go:113", after := _, guard := none }) rfl (fun K hK => ?_) (AllReadyH.cons (o := { dst := some 28, op := Op.alloc 37, type := 0, pos := "zz_law_s3509a.go:113", after := _, guard := none }) rfl (fun K hK => ?_) AllReadyH.nil)
        · go_simp
          refine (up_any ((unhide hSF).mem.later ((Below.refl wF.heap.size wF).drew)) hn (fun i => gOf_le st (i + 1)) hsh mg hmg mk t 0 n (unhide hSF).tree (by omega) (unhide hmono)).mono ?_
          rintro e w3 ⟨rfl, hB0⟩
          have hB1 := below_more ((Below.refl wF.heap.size wF).drew) hB0
          try (go_wp2_with fail)
          refine hK.out _ _ (unhide KS _ hB1) (fun hHeld => ?_)
          clear hK K
          try simp only [Act.put, List.setIfInBounds_toArray, List.set_cons_zero, List.set_cons_succ]
          refine wpAnyH_ready (rs := [7]) (by kernel_rfl) (by simp) ?_
          refine AllReadyH.cons (o := { dst := some 28, op := Op.alloc 37, type := 0, pos := "zz_law_s3509a.go:113", after := _, guard := none }) rfl (fun K hK => ?_) AllReadyH.nil
          go_simp
          refine hK.out _ _ (unhide KS _ (hB1.alloc hB1.size _)) (fun hHeld => ?_)
          clear hK K
          try simp only [Act.put, List.setIfInBounds_toArray, List.set_cons_zero, List.set_cons_succ]
          refine wpAnyH_ready (rs := [8]) (by kernel_rfl) (by simp) ?_
          refine AllReadyH.cons (o := { dst := none, op := Op.store 37 (Operand.tmp 28) (Operand.tmp 172), type := 0, pos := "zz_law_s3509a.go:113", after := _, guard := none }) rfl (fun K hK => ?_) AllReadyH.nil
          rw [if_pos (by rfl)]
          refine wp_store_mid _ _ _ rfl w3.heap.size 0 #[.int .i64 ((sumF (cI (inB (gG st) mg mk)) 0 n : Nat) : Int), .int .i64 ((sumF (cV (inB (gG st) mg mk) (flF rm)) 0 n : Nat) : Int), .int .u64 ((xorF (cV (inB (gG st) mg mk) sh) 0 n : Nat) : Int)] rfl rfl (there_of_row (acc_new w3) 0 3 (by omega)) info37 (acc_one _ _ _) ?_
          try simp only [Act.put, List.setIfInBounds_toArray, List.set_cons_zero, List.set_cons_succ]
          refine hK.out _ _ (unhide KS _ (below_setCells _ hB1.size _ _ (hB1.alloc hB1.size _))) (fun hHeld => ?_)
          clear hK K
          try simp only [Act.put, List.setIfInBounds_toArray, List.set_cons_zero, List.set_cons_succ]
          refine wpAnyH_done (by kernel_rfl) ?_ _
          go_wp2_with fail
          go_meet
          exact ⟨w3.heap.size, rfl, got_call_first hB1 _ _ _⟩
        · go_simp
          refine hK.out _ _ (unhide KS _ (((Below.refl _ _).drew).alloc (Nat.le_refl _) _)) (fun hHeld => ?_)
          clear hK K
          try simp only [Act.put, List.setIfInBounds_toArray, List.set_cons_zero, List.set_cons_succ]
          have hBa : Below wF.heap.size wF (wF.drew.alloc (.cells #[.int .i64 0, .int .i64 0, .int .u64 0] 37)) := ((Below.refl _ _).drew).alloc (Nat.le_refl _) _
          refine wpAnyH_ready (rs := [6]) (by kernel_rfl) (by simp) ?_
          refine AllReadyH.cons (o := { dst := some 172, op := Op.call { callee := Callee.value (Operand.func 7), args := #[Operand.tmp 166, Operand.tmp 170, Operand.tmp 171], argTypes := #[41, 21, 60] }, type := 37, pos := "zz_law_s3509a.go:113", after := _, guard := none }) rfl (fun K hK => ?_) AllReadyH.nil
          go_simp
          refine (up_any ((unhide hSF).mem.later hBa) hn (fun i => gOf_le st (i + 1)) hsh mg hmg mk t 0 n (unhide hSF).tree (by omega) (unhide hmono)).mono ?_
          rintro e w3 ⟨rfl, hB0⟩
          have hB2 := below_more hBa hB0
          try (go_wp2_with fail)
          refine hK.out _ _ (unhide KS _ hB2) (fun hHeld => ?_)
          clear hK K
          try simp only [Act.put, List.setIfInBounds_toArray, List.set_cons_zero, List.set_cons_succ]
          have hsz1 : (wF.drew.alloc (.cells #[.int .i64 0, .int .i64 0, .int .u64 0] 37)).heap.size = wF.heap.size + 1 := by simp
          rw [hsz1] at hB0
          refine wpAnyH_ready (rs := [8]) (by kernel_rfl) (by simp) ?_
          refine AllReadyH.cons (o := { dst := none, op := Op.store 37 (Operand.tmp 28) (Operand.tmp 172), type := 0, pos := "zz_law_s3509a.go:113", after := _, guard := none }) rfl (fun K hK => ?_) AllReadyH.nil
          rw [if_pos (by rfl)]
          refine wp_store_mid _ _ _ rfl wF.heap.size 0 #[.int .i64 ((sumF (cI (inB (gG st) mg mk)) 0 n : Nat) : Int), .int .i64 ((sumF (cV (inB (gG st) mg mk) (flF rm)) 0 n : Nat) : Int), .int .u64 ((xorF (cV (inB (gG st) mg mk) sh) 0 n : Nat) : Int)] rfl rfl (there_of_row ((acc_new wF.drew).of_block (hB0.block _ (by show wF.heap.size < wF.heap.size + 1; omega))) 0 3 (by omega)) info37 (acc_one _ _ _) ?_
          try simp only [Act.put, List.setIfInBounds_toArray, List.set_cons_zero, List.set_cons_succ]
          refine hK.out _ _ (unhide KS _ (below_setCells _ (Nat.le_refl _) _ _ hB2)) (fun hHeld => ?_)
          clear hK K
          try simp only [Act.put, List.setIfInBounds_toArray, List.set_cons_zero, List.set_cons_succ]
          refine wpAnyH_done (by kernel_rfl) ?_ _
          go_wp2_with fail
          go_meet
          exact ⟨wF.heap.size, rfl, got_alloc_drew hB0 _ _ _⟩
      case rest =>
      obtain ⟨rb, rfl, hG⟩ := hcut
      rename World => wG
      exact (by assumption : ∀ (a : Act) (w0 : World), Code.wp Yba.prog tail18 (bodyPost Yba.prog Yba.f3 fun e w' => e = .returned (.bool true) ∧ Below w.heap.size w w') a w0 → _) _ _ (law_t18 hn hmg hsh (unhide hSF) hG (unhide hBef) (unhide hrF))

end Go.Proofs.Ybulkbtqm

import Derived.Test.YbulkbtqmLawH
import Derived.Deep.CutBlock
import Derived.Deep.DeepCutAuto
namespace Go.Proofs.Ybulkbtqm
open Go.RowKit
set_option linter.unusedVariables false
set_option linter.unusedSimpArgs false

set_option maxHeartbeats 4000000 in
set_option maxRecDepth 100000 in
theorem law_t18 {w wA wB wD wE wF wG : World} {ai : Option Addr} {n ci rb mg : Nat} {mk : ByteArray} {st sh : Nat → Nat} {rm : Nat → Bool} {T' : Nat → TD} {t : Int} (hn : n ≤ 600) (hmg : mg ≤ 255) (hsh : ∀ i, sh i < 18446744073709551616) (hSF0 : Stands w wF w.heap.size (wB.heap.size + 1 + 1 + 1) wA.heap.size (wB.heap.size + 1) (w.heap.size + 1) n ai st sh rm T' t)
    (hG : Got wF wG rb (sumF (cI (inB (gG st) mg mk)) 0 n) (sumF (cV (inB (gG st) mg mk) (flF rm)) 0 n) (xorF (cV (inB (gG st) mg mk) sh) 0 n)) (hBef0 : wF.rowIs wE.heap.size 40 (n * 36) (slotF (gG st) sh rm T')) (hrF0 : wF.rangeAt wD.heap.size 0 (markList mg mk)) {u1 u2 u3 u4 u5 u6 u7 u8 u9 u10 u11 u12 u15 u16 u17 u18 u19 u21 u24 u27 u29 u30 u31 u32 u33 u34 u35 u36 u37 u38 u39 u40 u41 u42 u43 u44 u45 u46 u47 u48 u49 u50 u51 u52 u53 u54 u55 u56 u57 u58 u59 u60 u61 u62 u63 u64 u65 u66 u67 u68 u69 u70 u71 u72 u73 u74 u75 u76 u77 u78 u79 u80 u81 u82 u83 u84 u85 u86 u87 u88 u89 u90 u91 u92 u93 u94 u95 u96 u97 u98 u99 u100 u101 u102 u103 u104 u105 u106 u107 u108 u109 u110 u111 u112 u113 u114 u115 u116 u117 u118 u119 u120 u121 u122 u123 u124 u125 u126 u127 u128 u129 u130 u131 u132 u133 u134 u135 u136 u137 u138 u139 u140 u141 u142 u143 u144 u145 u146 u147 u148 u149 u150 u151 u152 u153 u154 u155 u156 u157 u158 u159 u160 u161 u162 u163 u164 u165 u166 u167 u168 u169 u170 u171 u172 u173 u174 u175 u176 u177 u178 u179 u180 u181 u182 u183 u184 u185 u186 u187 u188 u189 u190 u191 u192 u193 u194 u195 u196 u197 u198 u199 u200 u201 u202 u203 u204 u205 u206 u207 u208 u209 u210 u211 u212 u213 u214 u215 u216 u217 u218 u219 u220 u221 u222 u223 u224 u225 u226 u227 : Value} :
    Code.wp Yba.prog tail18 (bodyPost Yba.prog Yba.f3 fun e w' => e = .returned (.bool true) ∧ Below w.heap.size w w') ⟨#[.slice ai n ci, u1, u2, u3, u4, u5, u6, u7, u8, u9, u10, u11, u12, .int .i64 (n : Int), .slice (some ⟨w.heap.size, 0, none⟩) n n, u15, u16, u17, u18, u19, .pointer (some ⟨wB.heap.size + 1 + 1 + 1, 0, none⟩), u21, .int .i64 (mg : Int), .string mk, u24, .pointer (some ⟨wD.heap.size, 0, none⟩), .slice (some ⟨wE.heap.size, 0, none⟩) n n, u27, .pointer (some ⟨rb, 0, none⟩), u29, u30, u31, u32, u33, u34, u35, u36, u37, u38, u39, u40, u41, u42, u43, u44, u45, u46, u47, u48, u49, u50, u51, u52, u53, u54, u55, u56, u57, u58, u59, u60, u61, u62, u63, u64, u65, u66, u67, u68, u69, u70, u71, u72, u73, u74, u75, u76, u77, u78, u79, u80, u81, u82, u83, u84, u85, u86, u87, u88, u89, u90, u91, u92, u93, u94, u95, u96, u97, u98, u99, u100, u101, u102, u103, u104, u105, u106, u107, u108, u109, u110, u111, u112, u113, u114, u115, u116, u117, u118, u119, u120, u121, u122, u123, u124, u125, u126, u127, u128, u129, u130, u131, u132, u133, u134, u135, u136, u137, u138, u139, u140, u141, u142, u143, u144, u145, u146, u147, u148, u149, u150, u151, u152, u153, u154, u155, u156, u157, u158, u159, u160, u161, u162, u163, u164, u165, u166, u167, u168, u169, u170, u171, u172, u173, u174, u175, u176, u177, u178, u179, u180, u181, u182, u183, u184, u185, u186, u187, u188, u189, u190, u191, u192, u193, u194, u195, u196, u197, u198, u199, u200, u201, u202, u203, u204, u205, u206, u207, u208, u209, u210, u211, u212, u213, u214, u215, u216, u217, u218, u219, u220, u221, u222, u223, u224, u225, u226, u227], []⟩ wG := by
  have hSF := hide hSF0
  have hBef := hide hBef0
  have hrF := hide hrF0
  clear hSF0 hBef0 hrF0
  have hmonoA : Hid (∀ i j, i ≤ j → j < 600 → inB (gG st) mg mk j = true → inB (gG st) mg mk i = true) := fun i j h hj hin => inB_mono _ (gG_mono st) mg mk i j h hj hin
  conv => arg 2; simp only [tail18, Yba.f3, Option.getD_some, sndSeq]
  have hSG := hide ((unhide hSF).later hG.2.1)
  obtain ⟨A, HA⟩ : ∃ A : Nat, Hid (sumF (cI (inB (gG st) mg mk)) 0 n = A) := ⟨_, rfl⟩
  obtain ⟨V, HV⟩ : ∃ V : Nat, Hid (sumF (cV (inB (gG st) mg mk) (flF rm)) 0 n = V) := ⟨_, rfl⟩
  obtain ⟨X, HX⟩ : ∃ X : Nat, Hid (xorF (cV (inB (gG st) mg mk) sh) 0 n = X) := ⟨_, rfl⟩
  rw [unhide HA, unhide HV, unhide HX] at hG
  have hModel : Hid (∀ w', Below wG.heap.size wG w' → Calls Yba.prog 8 #[.slice ai n ci, .slice (some ⟨w.heap.size, 0, none⟩) n n, .int .i64 (0), .int .i64 ((n : Int) - 1), .int .i64 (mg : Int), .string mk] w' fun e w'' => e = .returned (.agg #[.int .i64 (A : Int), .int .i64 (V : Int), .int .u64 (X : Int)]) ∧ Below w'.heap.size w' w'') := fun w' hb => by
    have h := model_any (w := w') (g := gG st) (st := st) (sh := sh) (rm := rm) ai ci ((unhide hSG).items.later hb) w.heap.size n (fun i hi => cell_stays hb ((unhide hSG).gs i hi)) hn (fun i => gOf_le st (i + 1)) hsh mg hmg mk (0) (n) ((n : Int) - 1) (by omega) (by omega)
    rw [unhide HA, unhide HV, unhide HX] at h
    exact h
  have g0 := hG.1.cell (i := 0) (by omega)
  have g1 := hG.1.cell (i := 1) (by omega)
  have g2 := hG.1.cell (i := 2) (by omega)
  simp only [accF] at g0 g1 g2
  have hbG := hide hG.2.1
  clear hG
  have hwn : IntKind.i64.wrap ((n : Int) - 1) = (n : Int) - 1 := by rw [IntKind.wrap_i64]; omega
  go_wp2_with fail
  go_region_held3 (fun w' => w'.cell? ⟨rb, 0, none⟩ = some (.int .i64 (A : Int)) ∧ w'.cell? ⟨rb, 1, none⟩ = some (.int .i64 (V : Int)) ∧ w'.cell? ⟨rb, 2, none⟩ = some (.int .u64 (X : Int)))
    ((first | exact ⟨g0, g1, g2⟩ | exact ⟨cell_stays hB0 g0, cell_stays hB0 g1, cell_stays hB0 g2⟩))
    ((go_at_call 8; refine (unhide hModel _ ((Below.refl _ _).drew)).mono ?_; rintro e w1 ⟨rfl, hB0⟩))
  have hB1 := hide (below_more ((Below.refl wG.heap.size wG).drew) hB0)
  clear hB0 g0 g1 g2
  go_upto_if 183 with fail
  go_cut [29, 30] (fun _ _ wx => Hid (Below wG.heap.size wG wx))
  case first =>
    by_cases hz : 0 < n
    · have z1 : decide (0 < n) = true := by simp [hz]
      have z2 : decide ((0 : Int) < (n : Int)) = true := by simp [hz]
      obtain ⟨f0, hT⟩ := (unhide hSF).tree
      obtain ⟨f1, r, _, Ht, r0, r1, _, _, _, _, hTr⟩ := hT.node hz
      rw [Nat.zero_add] at hTr
      have hTree := hide hTr
      have HT := hide Ht
      clear hT hTr Ht
      have hSH := hide ((unhide hSG).later (unhide hB1))
      have q5 := (unhide hSH).order
      rw [unhide HT] at q5
      have hrn : r < n := by omega
      have p1 := (unhide hSH).mem.slots
      have p29 := (unhide hSH).mem.cell hrn 29 (by omega)
      simp only [slotCell] at p29
      have i0 : (0 : Int) ≤ (r : Int) := by omega
      have i1 : (r : Int) < (n : Int) := by omega
      have hrH : Hid (w1.rangeAt wD.heap.size 0 (markList mg mk)) := fun j v hj => cell_stays (unhide hB1) (cell_stays (unhide hbG) (unhide hrF j v hj))
      have KS2 : Hid (∀ w', Below w1.heap.size w1 w' → (w'.cell? ⟨wB.heap.size + 1 + 1 + 1, 1, none⟩ = some (.slice (some ⟨wA.heap.size, 0, none⟩) n n) ∧ w'.cell? ⟨wA.heap.size, r * 36 + 29, none⟩ = some (.int .i32 (T' r).r) ∧ w'.rangeAt wD.heap.size 0 (markList mg mk))) := fun w' hb => ⟨cell_stays hb (unhide hSH).mem.slots, cell_stays hb ((unhide hSH).mem.cell hrn 29 (by omega)), fun j v hj => cell_stays hb (unhide hrH j v hj)⟩
      have hmono2 : Hid (∀ i j, i ≤ j → j < r + 1 + (n - 1 - r) → inB (gG st) mg mk j = true → inB (gG st) mg mk i = true) := fun i j h hj hin => unhide hmonoA i j h (by omega) hin
      go_upto_region 42 with fail
      go_cut [30] (fun s30 wx => ∃ rb : Nat, s30 = .pointer (some ⟨rb, 0, none⟩) ∧ Got w1 wx rb (sumF (cI (inB (gG st) mg mk)) (r + 1) (n - 1 - r)) (sumF (cV (inB (gG st) mg mk) (flF rm)) (r + 1) (n - 1 - r)) (xorF (cV (inB (gG st) mg mk) sh) (r + 1) (n - 1 - r)))
      case first =>
        refine wp_region_held_drew (S := fun w' => w'.cell? ⟨wB.heap.size + 1 + 1 + 1, 1, none⟩ = some (.slice (some ⟨wA.heap.size, 0, none⟩) n n) ∧ w'.cell? ⟨wA.heap.size, r * 36 + 29, none⟩ = some (.int .i32 (T' r).r) ∧ w'.rangeAt wD.heap.size 0 (markList mg mk)) (by kernel_rfl) (unhide KS2 _ ((Below.refl _ _).drew)) (fun hHeld => ?_)
        refine wpAnyH_take (i := 0) (oi := { dst := some 189, op := Op.move (Operand.tmp 20), type := 41, pos := "zz_law_s3509a.go:119", after := _, guard := none }) (v := ?_) rfl (by kernel_rfl) (by kernel_rfl) (by kernel_rfl) (fun _ _ _ h => h) (Or.inl ⟨by rfl, ?_⟩) (by assumption) ?_
        rotate_left 1
        · (intro w hSw; (try dsimp only at hSw); go_simp <;> with_reducible rfl)
        try simp only [Act.put, List.setIfInBounds_toArray, List.set_cons_zero, List.set_cons_succ]
        refine wpAnyH_take (i := 1) (oi := { dst := some 190, op := Op.move (Operand.tmp 20), type := 41, pos := "zz_law_s3509a.go:119", after := _, guard := none }) (v := ?_) rfl (by kernel_rfl) (by kernel_rfl) (by kernel_rfl) (fun _ _ _ h => h) (Or.inl ⟨by rfl, ?_⟩) (by assumption) ?_
        rotate_left 1
        · (intro w hSw; (try dsimp only at hSw); go_simp <;> with_reducible rfl)
        try simp only [Act.put, List.setIfInBounds_toArray, List.set_cons_zero, List.set_cons_succ]
        refine wpAnyH_take (i := 2) (oi := { dst := some 191, op := Op.nilCheck (Operand.tmp 190), type := 0, pos := "zz_law_s3509a.go:119", after := _, guard := none }) (v := ?_) rfl (by kernel_rfl) (by kernel_rfl) (by kernel_rfl) (fun _ _ _ h => h) (Or.inl ⟨by rfl, ?_⟩) (by assumption) ?_
        rotate_left 1
        · (intro w hSw; (try dsimp only at hSw); go_simp <;> with_reducible rfl)
        try simp only [Act.put, List.setIfInBounds_toArray, List.set_cons_zero, List.set_cons_succ]
        refine wpAnyH_take (i := 3) (oi := { dst := some 192, op := Op.fieldAddr 55 (Operand.tmp 191) 1, type := 0, pos := "zz_law_s3509a.go:119", after := _, guard := none }) (v := ?_) rfl (by kernel_rfl) (by kernel_rfl) (by kernel_rfl) (fun _ _ _ h => h) (Or.inl ⟨by rfl, ?_⟩) (by assumption) ?_
        rotate_left 1
        · (intro w hSw; (try dsimp only at hSw); go_simp <;> with_reducible rfl)
        try simp only [Act.put, List.setIfInBounds_toArray, List.set_cons_zero, List.set_cons_succ]
        refine wpAnyH_take (i := 4) (oi := { dst := some 193, op := Op.load 28 (Operand.tmp 192), type := 28, pos := "zz_law_s3509a.go:119", after := _, guard := none }) (v := ?_) rfl (by kernel_rfl) (by kernel_rfl) (by kernel_rfl) (fun _ _ _ h => h) (Or.inl ⟨by rfl, ?_⟩) (by assumption) ?_
        rotate_left 1
        · (intro w hSw; (try dsimp only at hSw); go_simp <;> with_reducible rfl)
        try simp only [Act.put, List.setIfInBounds_toArray, List.set_cons_zero, List.set_cons_succ]
        refine wpAnyH_take (i := 5) (oi := { dst := some 194, op := Op.move (Operand.tmp 29), type := 3, pos := "zz_law_s3509a.go:119", after := _, guard := none }) (v := ?_) rfl (by kernel_rfl) (by kernel_rfl) (by kernel_rfl) (fun _ _ _ h => h) (Or.inl ⟨by rfl, ?_⟩) (by assumption) ?_
        rotate_left 1
        · (intro w hSw; (try dsimp only at hSw); go_simp <;> with_reducible rfl)
        try simp only [Act.put, List.setIfInBounds_toArray, List.set_cons_zero, List.set_cons_succ]
        refine wpAnyH_take (i := 6) (oi := { dst := some 195, op := Op.indexAddr 28 (Operand.tmp 193) (Operand.tmp 194), type := 0, pos := "zz_law_s3509a.go:119", after := _, guard := none }) (v := ?_) rfl (by kernel_rfl) (by kernel_rfl) (by kernel_rfl) (fun _ _ _ h => h) (Or.inl ⟨by rfl, ?_⟩) (by assumption) ?_
        rotate_left 1
        · (intro w hSw; (try dsimp only at hSw); go_simp <;> with_reducible rfl)
        try simp only [Act.put, List.setIfInBounds_toArray, List.set_cons_zero, List.set_cons_succ]
        refine wpAnyH_take (i := 7) (oi := { dst := some 196, op := Op.fieldAddr 40 (Operand.tmp 195) 5, type := 0, pos := "zz_law_s3509a.go:119", after := _, guard := none }) (v := ?_) rfl (by kernel_rfl) (by kernel_rfl) (by kernel_rfl) (fun _ _ _ h => h) (Or.inl ⟨by rfl, ?_⟩) (by assumption) ?_
        rotate_left 1
        · (intro w hSw; (try dsimp only at hSw); go_simp <;> with_reducible rfl)
        try simp only [Act.put, List.setIfInBounds_toArray, List.set_cons_zero, List.set_cons_succ]
        refine wpAnyH_take (i := 8) (oi := { dst := some 197, op := Op.load 21 (Operand.tmp 196), type := 21, pos := "zz_law_s3509a.go:119", after := _, guard := none }) (v := ?_) rfl (by kernel_rfl) (by kernel_rfl) (by kernel_rfl) (fun _ _ _ h => h) (Or.inl ⟨by rfl, ?_⟩) (by assumption) ?_
        rotate_left 1
        · (intro w hSw; (try dsimp only at hSw); go_simp <;> with_reducible rfl)
        try simp only [Act.put, List.setIfInBounds_toArray, List.set_cons_zero, List.set_cons_succ]
        refine wpAnyH_take (i := 9) (oi := { dst := some 198, op := Op.load 60 (Operand.tmp 25), type := 60, pos := "zz_law_s3509a.go:119", after := _, guard := none }) rfl (by kernel_rfl) (by kernel_rfl) (by kernel_rfl) (fun _ _ _ h => h) (yieldsIf_load_mid (by rfl) _ _ rfl wD.heap.size 0 rfl (markList mg mk) _ (fun w h => h.2.2) Yba.underlying60 rfl info60) (by assumption) ?_
        try simp only [Act.put, List.setIfInBounds_toArray, List.set_cons_zero, List.set_cons_succ]
        refine wpAnyH_ready (rs := [10, 11]) (by kernel_rfl) (by simp) ?_
        refine AllReadyH.cons (o := { dst := some 199, op := Op.call { callee := Callee.value (Operand.func 7), args := #[Operand.tmp 189, Operand.tmp 197, Operand.tmp 198], argTypes := #[41, 21, 60] }, type := 37, pos := "zz_law_s3509a.go:119", after := _, guard := none }) rfl (fun K hK => ?_) (AllReadyH.cons (o := { dst := some 30, op := Op.alloc 37, type := 0, pos := "zz_law_s3509a.go:119", after := _, guard := none }) rfl (fun K hK => ?_) AllReadyH.nil)
        · go_simp
          refine (up_any ((unhide hSH).mem.later ((Below.refl w1.heap.size w1).drew)) hn (fun i => gOf_le st (i + 1)) hsh mg hmg mk (T' r).r (r + 1) (n - 1 - r) ⟨_, unhide hTree⟩ (by omega) (unhide hmono2)).mono ?_
          rintro e w3 ⟨rfl, hB0⟩
          have hB1 := below_more ((Below.refl w1.heap.size w1).drew) hB0
          try (go_wp2_with fail)
          refine hK.out _ _ (unhide KS2 _ hB1) (fun hHeld => ?_)
          clear hK K
          try simp only [Act.put, List.setIfInBounds_toArray, List.set_cons_zero, List.set_cons_succ]
          refine wpAnyH_ready (rs := [11]) (by kernel_rfl) (by simp) ?_
          refine AllReadyH.cons (o := { dst := some 30, op := Op.alloc 37, type := 0, pos := "zz_law_s3509a.go:119", after := _, guard := none }) rfl (fun K hK => ?_) AllReadyH.nil
          go_simp
          refine hK.out _ _ (unhide KS2 _ (hB1.alloc hB1.size _)) (fun hHeld => ?_)
          clear hK K
          try simp only [Act.put, List.setIfInBounds_toArray, List.set_cons_zero, List.set_cons_succ]
          refine wpAnyH_ready (rs := [12]) (by kernel_rfl) (by simp) ?_
          refine AllReadyH.cons (o := { dst := none, op := Op.store 37 (Operand.tmp 30) (Operand.tmp 199), type := 0, pos := "zz_law_s3509a.go:119", after := _, guard := none }) rfl (fun K hK => ?_) AllReadyH.nil
          rw [if_pos (by rfl)]
          refine wp_store_mid _ _ _ rfl w3.heap.size 0 #[.int .i64 ((sumF (cI (inB (gG st) mg mk)) (r + 1) (n - 1 - r) : Nat) : Int), .int .i64 ((sumF (cV (inB (gG st) mg mk) (flF rm)) (r + 1) (n - 1 - r) : Nat) : Int), .int .u64 ((xorF (cV (inB (gG st) mg mk) sh) (r + 1) (n - 1 - r) : Nat) : Int)] rfl rfl (there_of_row (acc_new w3) 0 3 (by omega)) info37 (acc_one _ _ _) ?_
          try simp only [Act.put, List.setIfInBounds_toArray, List.set_cons_zero, List.set_cons_succ]
          refine hK.out _ _ (unhide KS2 _ (below_setCells _ hB1.size _ _ (hB1.alloc hB1.size _))) (fun hHeld => ?_)
          clear hK K
          try simp only [Act.put, List.setIfInBounds_toArray, List.set_cons_zero, List.set_cons_succ]
          refine wpAnyH_done (by kernel_rfl) ?_ _
          go_wp2_with fail
          go_meet
          exact ⟨w3.heap.size, rfl, got_call_first hB1 _ _ _⟩
        · go_simp
          refine hK.out _ _ (unhide KS2 _ (((Below.refl _ _).drew).alloc (Nat.le_refl _) _)) (fun hHeld => ?_)
          clear hK K
          try simp only [Act.put, List.setIfInBounds_toArray, List.set_cons_zero, List.set_cons_succ]
          have hBa : Below w1.heap.size w1 (w1.drew.alloc (.cells #[.int .i64 0, .int .i64 0, .int .u64 0] 37)) := ((Below.refl _ _).drew).alloc (Nat.le_refl _) _
          refine wpAnyH_ready (rs := [10]) (by kernel_rfl) (by simp) ?_
          refine AllReadyH.cons (o := { dst := some 199, op := Op.call { callee := Callee.value (Operand.func 7), args := #[Operand.tmp 189, Operand.tmp 197, Operand.tmp 198], argTypes := #[41, 21, 60] }, type := 37, pos := "zz_law_s3509a.go:119", after := _, guard := none }) rfl (fun K hK => ?_) AllReadyH.nil
          go_simp
          refine (up_any ((unhide hSH).mem.later hBa) hn (fun i => gOf_le st (i + 1)) hsh mg hmg mk (T' r).r (r + 1) (n - 1 - r) ⟨_, unhide hTree⟩ (by omega) (unhide hmono2)).mono ?_
          rintro e w3 ⟨rfl, hB0⟩
          have hB2 := below_more hBa hB0
          try (go_wp2_with fail)
          refine hK.out _ _ (unhide KS2 _ hB2) (fun hHeld => ?_)
          clear hK K
          try simp only [Act.put, List.setIfInBounds_toArray, List.set_cons_zero, List.set_cons_succ]
          have hsz1 : (w1.drew.alloc (.cells #[.int .i64 0, .int .i64 0, .int .u64 0] 37)).heap.size = w1.heap.size + 1 := by simp
          rw [hsz1] at hB0
          refine wpAnyH_ready (rs := [12]) (by kernel_rfl) (by simp) ?_
          refine AllReadyH.cons (o := { dst := none, op := Op.store 37 (Operand.tmp 30) (Operand.tmp 199), type := 0, pos := "zz_law_s3509a.go:119", after := _, guard := none }) rfl (fun K hK => ?_) AllReadyH.nil
          rw [if_pos (by rfl)]
          refine wp_store_mid _ _ _ rfl w1.heap.size 0 #[.int .i64 ((sumF (cI (inB (gG st) mg mk)) (r + 1) (n - 1 - r) : Nat) : Int), .int .i64 ((sumF (cV (inB (gG st) mg mk) (flF rm)) (r + 1) (n - 1 - r) : Nat) : Int), .int .u64 ((xorF (cV (inB (gG st) mg mk) sh) (r + 1) (n - 1 - r) : Nat) : Int)] rfl rfl (there_of_row ((acc_new w1.drew).of_block (hB0.block _ (by show w1.heap.size < w1.heap.size + 1; omega))) 0 3 (by omega)) info37 (acc_one _ _ _) ?_
          try simp only [Act.put, List.setIfInBounds_toArray, List.set_cons_zero, List.set_cons_succ]
          refine hK.out _ _ (unhide KS2 _ (below_setCells _ (Nat.le_refl _) _ _ hB2)) (fun hHeld => ?_)
          clear hK K
          try simp only [Act.put, List.setIfInBounds_toArray, List.set_cons_zero, List.set_cons_succ]
          refine wpAnyH_done (by kernel_rfl) ?_ _
          go_wp2_with fail
          go_meet
          exact ⟨w1.heap.size, rfl, got_alloc_drew hB0 _ _ _⟩
      case rest =>
      obtain ⟨rb2, rfl, hG⟩ := hcut
      rename World => wK
      have hSK := hide ((unhide hSH).later hG.2.1)
      clear hModel
      obtain ⟨A, HA⟩ : ∃ A : Nat, Hid (sumF (cI (inB (gG st) mg mk)) (r + 1) (n - 1 - r) = A) := ⟨_, rfl⟩
      obtain ⟨V, HV⟩ : ∃ V : Nat, Hid (sumF (cV (inB (gG st) mg mk) (flF rm)) (r + 1) (n - 1 - r) = V) := ⟨_, rfl⟩
      obtain ⟨X, HX⟩ : ∃ X : Nat, Hid (xorF (cV (inB (gG st) mg mk) sh) (r + 1) (n - 1 - r) = X) := ⟨_, rfl⟩
      rw [unhide HA, unhide HV, unhide HX] at hG
      have hModel : Hid (∀ w', Below wK.heap.size wK w' → Calls Yba.prog 8 #[.slice ai n ci, .slice (some ⟨w.heap.size, 0, none⟩) n n, .int .i64 ((r : Int) + 1), .int .i64 ((n : Int) - 1), .int .i64 (mg : Int), .string mk] w' fun e w'' => e = .returned (.agg #[.int .i64 (A : Int), .int .i64 (V : Int), .int .u64 (X : Int)]) ∧ Below w'.heap.size w' w'') := fun w' hb => by
        have h := model_any (w := w') (g := gG st) (st := st) (sh := sh) (rm := rm) ai ci ((unhide hSK).items.later hb) w.heap.size n (fun i hi => cell_stays hb ((unhide hSK).gs i hi)) hn (fun i => gOf_le st (i + 1)) hsh mg hmg mk (r + 1) (n - 1 - r) ((n : Int) - 1) (by omega) (by omega)
        rw [unhide HA, unhide HV, unhide HX] at h
        exact h
      have g0 := hG.1.cell (i := 0) (by omega)
      have g1 := hG.1.cell (i := 1) (by omega)
      have g2 := hG.1.cell (i := 2) (by omega)
      simp only [accF] at g0 g1 g2
      have hbK := hide hG.2.1
      clear hG KS2
      have hwr : IntKind.i64.wrap ((r : Int) + 1) = (r : Int) + 1 := by rw [IntKind.wrap_i64]; omega
      go_wp2_with fail
      go_region_held3 (fun w' => w'.cell? ⟨rb2, 0, none⟩ = some (.int .i64 (A : Int)) ∧ w'.cell? ⟨rb2, 1, none⟩ = some (.int .i64 (V : Int)) ∧ w'.cell? ⟨rb2, 2, none⟩ = some (.int .u64 (X : Int)))
        ((first | exact ⟨g0, g1, g2⟩ | exact ⟨cell_stays hB0 g0, cell_stays hB0 g1, cell_stays hB0 g2⟩))
        ((go_at_call 8; refine (unhide hModel _ ((Below.refl _ _).drew)).mono ?_; rintro e w4 ⟨rfl, hB0⟩))
      go_wp2_with fail
      go_meet
      exact below_more (below_more (unhide hB1) (unhide hbK)) (below_more ((Below.refl wK.heap.size wK).drew) hB0)
    · have z1 : decide (0 < n) = false := by simp; omega
      have z2 : decide ((0 : Int) < (n : Int)) = false := by simp; omega
      have Hz := hide hz
      clear hz
      go_wp2_with fail
      go_meet
      exact unhide hB1
  case rest =>
  rename World => wH
  have hSH := (unhide hSG).later (unhide hcut)
  have hBefH := (unhide hBef).of_block ((below_more (unhide hbG) (unhide hcut)).block _ (unhide hBef).lt)
  exact (by assumption : ∀ (a : Act) (w0 : World), Code.wp Yba.prog tail20 (bodyPost Yba.prog Yba.f3 fun e w' => e = .returned (.bool true) ∧ Below w.heap.size w w') a w0 → _) _ _ (law_t20 hn hSH hBefH)

end Go.Proofs.Ybulkbtqm

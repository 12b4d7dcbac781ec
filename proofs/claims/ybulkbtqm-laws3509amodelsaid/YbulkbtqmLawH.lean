import Derived.Test.YbulkbtqmEnd
import Derived.Deep.CutBlock
import Derived.Deep.DeepCutAuto
namespace Go.Proofs.Ybulkbtqm
open Go.RowKit
set_option linter.unusedVariables false
set_option linter.unusedSimpArgs false

def sndSeq : Code → Code | .seq _ b => b | c => c
/-- What is left of the law's body behind its k-th statement: taken out of the loaded function, not typed. -/
noncomputable def tail14 : Code := sndSeq (sndSeq (sndSeq (sndSeq (sndSeq (sndSeq (sndSeq (sndSeq (sndSeq (sndSeq (sndSeq (sndSeq (sndSeq (sndSeq (Yba.f3.body.getD .skip))))))))))))))
noncomputable def tail18 : Code := sndSeq (sndSeq (sndSeq (sndSeq (sndSeq (sndSeq (sndSeq (sndSeq (sndSeq (sndSeq (sndSeq (sndSeq (sndSeq (sndSeq (sndSeq (sndSeq (sndSeq (sndSeq (Yba.f3.body.getD .skip))))))))))))))))))
noncomputable def tail20 : Code := sndSeq (sndSeq (sndSeq (sndSeq (sndSeq (sndSeq (sndSeq (sndSeq (sndSeq (sndSeq (sndSeq (sndSeq (sndSeq (sndSeq (sndSeq (sndSeq (sndSeq (sndSeq (sndSeq (sndSeq (Yba.f3.body.getD .skip))))))))))))))))))))

set_option maxHeartbeats 4000000 in
set_option maxRecDepth 100000 in
theorem law_t20 {w wA wB wE wH : World} {ai : Option Addr} {n : Nat} {st sh : Nat → Nat} {rm : Nat → Bool} {T' : Nat → TD} {t : Int} (hn : n ≤ 600) (hSH0 : Stands w wH w.heap.size (wB.heap.size + 1 + 1 + 1) wA.heap.size (wB.heap.size + 1) (w.heap.size + 1) n ai st sh rm T' t)
    (hBefH0 : wH.rowIs wE.heap.size 40 (n * 36) (slotF (gG st) sh rm T')) {u0 u1 u2 u3 u4 u5 u6 u7 u8 u9 u10 u11 u12 u14 u15 u16 u17 u18 u19 u21 u22 u23 u24 u25 u27 u28 u29 u30 u31 u32 u33 u34 u35 u36 u37 u38 u39 u40 u41 u42 u43 u44 u45 u46 u47 u48 u49 u50 u51 u52 u53 u54 u55 u56 u57 u58 u59 u60 u61 u62 u63 u64 u65 u66 u67 u68 u69 u70 u71 u72 u73 u74 u75 u76 u77 u78 u79 u80 u81 u82 u83 u84 u85 u86 u87 u88 u89 u90 u91 u92 u93 u94 u95 u96 u97 u98 u99 u100 u101 u102 u103 u104 u105 u106 u107 u108 u109 u110 u111 u112 u113 u114 u115 u116 u117 u118 u119 u120 u121 u122 u123 u124 u125 u126 u127 u128 u129 u130 u131 u132 u133 u134 u135 u136 u137 u138 u139 u140 u141 u142 u143 u144 u145 u146 u147 u148 u149 u150 u151 u152 u153 u154 u155 u156 u157 u158 u159 u160 u161 u162 u163 u164 u165 u166 u167 u168 u169 u170 u171 u172 u173 u174 u175 u176 u177 u178 u179 u180 u181 u182 u183 u184 u185 u186 u187 u188 u189 u190 u191 u192 u193 u194 u195 u196 u197 u198 u199 u200 u201 u202 u203 u204 u205 u206 u207 u208 u209 u210 u211 u212 u213 u214 u215 u216 u217 u218 u219 u220 u221 u222 u223 u224 u225 u226 u227 : Value} :
    Code.wp Yba.prog tail20 (bodyPost Yba.prog Yba.f3 fun e w' => e = .returned (.bool true) ∧ Below w.heap.size w w') ⟨#[u0, u1, u2, u3, u4, u5, u6, u7, u8, u9, u10, u11, u12, .int .i64 (n : Int), u14, u15, u16, u17, u18, u19, .pointer (some ⟨wB.heap.size + 1 + 1 + 1, 0, none⟩), u21, u22, u23, u24, u25, .slice (some ⟨wE.heap.size, 0, none⟩) n n, u27, u28, u29, u30, u31, u32, u33, u34, u35, u36, u37, u38, u39, u40, u41, u42, u43, u44, u45, u46, u47, u48, u49, u50, u51, u52, u53, u54, u55, u56, u57, u58, u59, u60, u61, u62, u63, u64, u65, u66, u67, u68, u69, u70, u71, u72, u73, u74, u75, u76, u77, u78, u79, u80, u81, u82, u83, u84, u85, u86, u87, u88, u89, u90, u91, u92, u93, u94, u95, u96, u97, u98, u99, u100, u101, u102, u103, u104, u105, u106, u107, u108, u109, u110, u111, u112, u113, u114, u115, u116, u117, u118, u119, u120, u121, u122, u123, u124, u125, u126, u127, u128, u129, u130, u131, u132, u133, u134, u135, u136, u137, u138, u139, u140, u141, u142, u143, u144, u145, u146, u147, u148, u149, u150, u151, u152, u153, u154, u155, u156, u157, u158, u159, u160, u161, u162, u163, u164, u165, u166, u167, u168, u169, u170, u171, u172, u173, u174, u175, u176, u177, u178, u179, u180, u181, u182, u183, u184, u185, u186, u187, u188, u189, u190, u191, u192, u193, u194, u195, u196, u197, u198, u199, u200, u201, u202, u203, u204, u205, u206, u207, u208, u209, u210, u211, u212, u213, u214, u215, u216, u217, u218, u219, u220, u221, u222, u223, u224, u225, u226, u227], []⟩ wH := by
  have hSH := hide hSH0
  have hBefH := hide hBefH0
  clear hSH0 hBefH0
  conv => arg 2; simp only [tail20, Yba.f3, Option.getD_some, sndSeq]
  go_wp2_with fail
  go_loopw [31] (fun iv wr => ∃ i : Nat, i ≤ n ∧ iv = .int .i64 (i : Int) ∧ Hid (Below wH.heap.size wH wr)) (fun iv _ => n - (intOf iv).toNat)
  case atStart => exact ⟨0, Nat.zero_le _, rfl, Below.refl _ _⟩
  case round =>
    obtain ⟨i, hi, rfl, hW⟩ := hrel
    by_cases hlt : i < n
    · have hS2 := hide ((unhide hSH).later (unhide hW))
      have c1 := (unhide hS2).mem.slots
      have r1 := hide (slotL_range (unhide hS2).mem.row i hlt)
      have r2 := hide (slotL_range ((unhide hBefH).of_block ((unhide hW).block _ (unhide hBefH).lt)) i hlt)
      have i0 : (0 : Int) ≤ (i : Int) := by omega
      have i1 : (i : Int) < (n : Int) := by omega
      go_wp2_with fail
      refine wp_region_held_drew (S := fun w' => w'.cell? ⟨wB.heap.size + 1 + 1 + 1, 1, none⟩ = some (.slice (some ⟨wA.heap.size, 0, none⟩) n n) ∧ w'.rangeAt wA.heap.size (i * 36) (slotL (gG st) sh rm T' i) ∧ w'.rangeAt wE.heap.size (i * 36) (slotL (gG st) sh rm T' i)) (by kernel_rfl) ⟨c1, unhide r1, unhide r2⟩ (fun hHeld => ?_)
      refine wpAnyH_take (i := 0) (oi := { dst := some 216, op := Op.move (Operand.tmp 20), type := 41, pos := "zz_law_s3509a.go:125", after := _, guard := none }) (v := ?_) rfl (by kernel_rfl) (by kernel_rfl) (by kernel_rfl) (fun _ _ _ h => h) (Or.inl ⟨by rfl, ?_⟩) (by assumption) ?_
      rotate_left 1
      · (intro w hSw; (try dsimp only at hSw); go_simp <;> with_reducible rfl)
      try simp only [Act.put, List.setIfInBounds_toArray, List.set_cons_zero, List.set_cons_succ]
      refine wpAnyH_take (i := 1) (oi := { dst := some 217, op := Op.nilCheck (Operand.tmp 216), type := 0, pos := "zz_law_s3509a.go:125", after := _, guard := none }) (v := ?_) rfl (by kernel_rfl) (by kernel_rfl) (by kernel_rfl) (fun _ _ _ h => h) (Or.inl ⟨by rfl, ?_⟩) (by assumption) ?_
      rotate_left 1
      · (intro w hSw; (try dsimp only at hSw); go_simp <;> with_reducible rfl)
      try simp only [Act.put, List.setIfInBounds_toArray, List.set_cons_zero, List.set_cons_succ]
      refine wpAnyH_take (i := 2) (oi := { dst := some 218, op := Op.fieldAddr 55 (Operand.tmp 217) 1, type := 0, pos := "zz_law_s3509a.go:125", after := _, guard := none }) (v := ?_) rfl (by kernel_rfl) (by kernel_rfl) (by kernel_rfl) (fun _ _ _ h => h) (Or.inl ⟨by rfl, ?_⟩) (by assumption) ?_
      rotate_left 1
      · (intro w hSw; (try dsimp only at hSw); go_simp <;> with_reducible rfl)
      try simp only [Act.put, List.setIfInBounds_toArray, List.set_cons_zero, List.set_cons_succ]
      refine wpAnyH_take (i := 3) (oi := { dst := some 219, op := Op.load 28 (Operand.tmp 218), type := 28, pos := "zz_law_s3509a.go:125", after := _, guard := none }) (v := ?_) rfl (by kernel_rfl) (by kernel_rfl) (by kernel_rfl) (fun _ _ _ h => h) (Or.inl ⟨by rfl, ?_⟩) (by assumption) ?_
      rotate_left 1
      · (intro w hSw; (try dsimp only at hSw); go_simp <;> with_reducible rfl)
      try simp only [Act.put, List.setIfInBounds_toArray, List.set_cons_zero, List.set_cons_succ]
      refine wpAnyH_take (i := 4) (oi := { dst := some 220, op := Op.move (Operand.tmp 31), type := 3, pos := "zz_law_s3509a.go:125", after := _, guard := none }) (v := ?_) rfl (by kernel_rfl) (by kernel_rfl) (by kernel_rfl) (fun _ _ _ h => h) (Or.inl ⟨by rfl, ?_⟩) (by assumption) ?_
      rotate_left 1
      · (intro w hSw; (try dsimp only at hSw); go_simp <;> with_reducible rfl)
      try simp only [Act.put, List.setIfInBounds_toArray, List.set_cons_zero, List.set_cons_succ]
      refine wpAnyH_take (i := 5) (oi := { dst := some 221, op := Op.indexAddr 28 (Operand.tmp 219) (Operand.tmp 220), type := 0, pos := "zz_law_s3509a.go:125", after := _, guard := none }) (v := ?_) rfl (by kernel_rfl) (by kernel_rfl) (by kernel_rfl) (fun _ _ _ h => h) (Or.inl ⟨by rfl, ?_⟩) (by assumption) ?_
      rotate_left 1
      · (intro w hSw; (try dsimp only at hSw); go_simp <;> with_reducible rfl)
      try simp only [Act.put, List.setIfInBounds_toArray, List.set_cons_zero, List.set_cons_succ]
      refine wpAnyH_take (i := 6) (oi := { dst := some 222, op := Op.load 40 (Operand.tmp 221), type := 40, pos := "zz_law_s3509a.go:125", after := _, guard := none }) rfl (by kernel_rfl) (by kernel_rfl) (by kernel_rfl) (fun _ _ _ h => h) (yieldsIf_load_mid (by rfl) _ _ rfl wA.heap.size (i * 36) rfl (slotL (gG st) sh rm T' i) _ (fun w h => h.2.1) Yba.underlying40 rfl info40) (by assumption) ?_
      try simp only [Act.put, List.setIfInBounds_toArray, List.set_cons_zero, List.set_cons_succ]
      refine wpAnyH_take (i := 7) (oi := { dst := some 223, op := Op.move (Operand.tmp 26), type := 28, pos := "zz_law_s3509a.go:125", after := _, guard := none }) (v := ?_) rfl (by kernel_rfl) (by kernel_rfl) (by kernel_rfl) (fun _ _ _ h => h) (Or.inl ⟨by rfl, ?_⟩) (by assumption) ?_
      rotate_left 1
      · (intro w hSw; (try dsimp only at hSw); go_simp <;> with_reducible rfl)
      try simp only [Act.put, List.setIfInBounds_toArray, List.set_cons_zero, List.set_cons_succ]
      refine wpAnyH_take (i := 8) (oi := { dst := some 224, op := Op.move (Operand.tmp 31), type := 3, pos := "zz_law_s3509a.go:125", after := _, guard := none }) (v := ?_) rfl (by kernel_rfl) (by kernel_rfl) (by kernel_rfl) (fun _ _ _ h => h) (Or.inl ⟨by rfl, ?_⟩) (by assumption) ?_
      rotate_left 1
      · (intro w hSw; (try dsimp only at hSw); go_simp <;> with_reducible rfl)
      try simp only [Act.put, List.setIfInBounds_toArray, List.set_cons_zero, List.set_cons_succ]
      refine wpAnyH_take (i := 9) (oi := { dst := some 225, op := Op.indexAddr 28 (Operand.tmp 223) (Operand.tmp 224), type := 0, pos := "zz_law_s3509a.go:125", after := _, guard := none }) (v := ?_) rfl (by kernel_rfl) (by kernel_rfl) (by kernel_rfl) (fun _ _ _ h => h) (Or.inl ⟨by rfl, ?_⟩) (by assumption) ?_
      rotate_left 1
      · (intro w hSw; (try dsimp only at hSw); go_simp <;> with_reducible rfl)
      try simp only [Act.put, List.setIfInBounds_toArray, List.set_cons_zero, List.set_cons_succ]
      refine wpAnyH_take (i := 10) (oi := { dst := some 226, op := Op.load 40 (Operand.tmp 225), type := 40, pos := "zz_law_s3509a.go:125", after := _, guard := none }) rfl (by kernel_rfl) (by kernel_rfl) (by kernel_rfl) (fun _ _ _ h => h) (yieldsIf_load_mid (by rfl) _ _ rfl wE.heap.size (i * 36) rfl (slotL (gG st) sh rm T' i) _ (fun w h => h.2.2) Yba.underlying40 rfl info40) (by assumption) ?_
      try simp only [Act.put, List.setIfInBounds_toArray, List.set_cons_zero, List.set_cons_succ]
      refine wpAnyH_take (i := 11) (oi := { dst := some 227, op := Op.binOp BinOp.neq 40 (Operand.tmp 222) (Operand.tmp 226) 40, type := 4, pos := "zz_law_s3509a.go:125", after := _, guard := none }) rfl (by kernel_rfl) (by kernel_rfl) (by kernel_rfl) (fun _ _ _ h => h) (yields_neq40 (by rfl) _ _ _ rfl (gG st) sh rm T' i rfl rfl) (by assumption) ?_
      try simp only [Act.put, List.setIfInBounds_toArray, List.set_cons_zero, List.set_cons_succ]
      refine wpAnyH_done (by kernel_rfl) ?_ _
      go_wp2_with fail
      exact ⟨⟨i + 1, by omega, rfl, (unhide hW).drew⟩, by simp [intOf]; omega⟩
    · obtain rfl : n = i := by omega
      go_wp2_with fail
      go_ret
      exact ⟨rfl, below_more (unhide hSH).bel (unhide hW)⟩

end Go.Proofs.Ybulkbtqm

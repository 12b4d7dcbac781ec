import Derived.Test.YbulkbtikBld
namespace Go.Proofs.Ybulkbtik
open Go.Conc Go.RowKit Go.MuLone
set_option linter.unusedVariables false
set_option linter.unusedSimpArgs false

set_option maxHeartbeats 4000000 in
set_option maxRecDepth 100000 in
theorem law_t5 {w wr : World} {aw : Option Addr} {n cw p rb sb ve vw vg : Nat} {lo : Nat → Nat} {has woken : Nat → Bool} {x : Nat → Int} {he hw : Bool} {y W G : Int} {g : Nat → Value} (hn : n ≤ 1024) (hp : p ≤ 255)
    (hI0 : Ws w aw n has woken x) (hGrp0 : Grp wr rb sb n lo has woken x (fun _ => true) g) (hc0 : Cfg g ve vw vg he hw) (g143 : g 143 = .int .i64 0) (hB0 : Below w.heap.size w wr) (hrb : w.heap.size ≤ rb)
    (hy : Reads ve y) (hW : Reads vw W) (hGv : Reads vg G) (bx : ∀ k, -32768 ≤ x k ∧ x k ≤ 32767) (by' : -32768 ≤ y ∧ y ≤ 32767) (bW : -32768 ≤ W ∧ W ≤ 32767) (bG : -32768 ≤ G ∧ G ≤ 32767) {u7 u8 u9 u10 u11 u12 u13 u14 u16 u17 u18 u19 u20 u21 u22 u23 u24 u25 u26 u27 u28 u29 u30 u31 u32 u33 u34 u35 u36 u37 u38 u39 u40 u41 u42 u43 u44 u45 u46 u47 u48 u49 u50 u51 u52 u53 u54 u55 u56 u57 u58 u59 u60 u61 u62 u63 u64 u65 u66 u67 u68 u69 u70 u71 u72 u73 u74 u75 u76 u77 u78 u79 u80 u81 u82 u83 u84 u85 u86 u87 u88 u89 u90 u91 u92 u93 u94 u95 u96 u97 u98 u99 u100 u101 u102 u103 u104 u105 u106 u107 u108 u109 u110 u111 u112 u113 u114 u115 u116 u117 u118 u119 u120 u121 u122 u123 u124 u125 u126 u127 u128 u129 u130 u131 u132 u133 u134 u135 u136 u137 u138 u139 u140 u141 u142 u143 u144 u145 u146 u147 u148 u149 u150 u151 u152 u153 u154 u155 u156 u157 u158 u159 u160 u161 u162 u163 u164 u165 u166 u167 u168 u169 u170 u171 u172 u173 u174 u175 u176 u177 u178 u179 u180 u181 u182 u183 u184 u185 u186 u187 u188 u189 u190 u191 u192 u193 u194 u195 u196 u197 u198 u199 u200 u201 u202 u203 u204 u205 u206 u207 u208 u209 u210 u211 u212 u213 u214 u215 u216 u217 u218 u219 u220 u221 u222 u223 u224 u225 u226 u227 u228 u229 u230 u231 u232 u233 u234 : Value} :
    Code.wp Yba.prog tail5 (bodyPost Yba.prog Yba.f5 fun e w' => e = .returned (.bool true) ∧ Below w.heap.size w w') ⟨#[.slice aw n cw, .int .i16 y, .bool he, .int .i16 W, .bool hw, .int .i16 G, .int .u8 (p : Int), u7, u8, u9, u10, u11, u12, u13, u14, .pointer (some ⟨rb, 0, none⟩), u16, u17, u18, u19, u20, u21, u22, u23, u24, u25, u26, u27, u28, u29, u30, u31, u32, u33, u34, u35, u36, u37, u38, u39, u40, u41, u42, u43, u44, u45, u46, u47, u48, u49, u50, u51, u52, u53, u54, u55, u56, u57, u58, u59, u60, u61, u62, u63, u64, u65, u66, u67, u68, u69, u70, u71, u72, u73, u74, u75, u76, u77, u78, u79, u80, u81, u82, u83, u84, u85, u86, u87, u88, u89, u90, u91, u92, u93, u94, u95, u96, u97, u98, u99, u100, u101, u102, u103, u104, u105, u106, u107, u108, u109, u110, u111, u112, u113, u114, u115, u116, u117, u118, u119, u120, u121, u122, u123, u124, u125, u126, u127, u128, u129, u130, u131, u132, u133, u134, u135, u136, u137, u138, u139, u140, u141, u142, u143, u144, u145, u146, u147, u148, u149, u150, u151, u152, u153, u154, u155, u156, u157, u158, u159, u160, u161, u162, u163, u164, u165, u166, u167, u168, u169, u170, u171, u172, u173, u174, u175, u176, u177, u178, u179, u180, u181, u182, u183, u184, u185, u186, u187, u188, u189, u190, u191, u192, u193, u194, u195, u196, u197, u198, u199, u200, u201, u202, u203, u204, u205, u206, u207, u208, u209, u210, u211, u212, u213, u214, u215, u216, u217, u218, u219, u220, u221, u222, u223, u224, u225, u226, u227, u228, u229, u230, u231, u232, u233, u234], []⟩ wr := by
  have HI := hide hI0
  have HG := hide hGrp0
  have HC := hide hc0
  have HB := hide hB0
  have H143 := hide g143
  clear hI0 hGrp0 hc0 hB0 g143
  have c14 : wr.cell? ⟨rb, 14, none⟩ = some (.slice (some ⟨sb, 0, none⟩) n n) := ((unhide HG).run.cell (by omega)).trans (by rw [(unhide HG).g14])
  conv => arg 2; simp only [tail5, Yba.f5, Option.getD_some, sndSeq]
  have m0 : (0 : Int) ≤ (p : Int) % ((n : Int) + 1) := Int.emod_nonneg _ (by omega)
  have m1 : (p : Int) % ((n : Int) + 1) < (n : Int) + 1 := Int.emod_lt_of_pos _ (by omega)
  go_upto_region 17 with fail
  obtain ⟨ex, hex⟩ : ∃ ex : Nat, (p : Int) % ((n : Int) + 1) = (ex : Int) := ⟨((p : Int) % ((n : Int) + 1)).toNat, by omega⟩
  rw [hex] at m0 m1 ⊢
  clear hex m0
  have bex : ex ≤ n := by omega
  clear m1
  obtain ⟨may, hmay⟩ : ∃ may, Hid (may = mayOf ex has x he hw y W G) := ⟨_, rfl⟩
  by_cases hx : ex < n
  · have d1 : decide ((ex : Int) < (n : Int)) = true := by simp [hx]
    have d2 : (ex : Int) < (n : Int) := by omega
    have d3 : (0 : Int) ≤ (ex : Int) := by omega
    have hcell := (unhide HG).ws.cell hx
    go_upto_region 20 with fail
    go_cut [21] (fun s21 wq => s21 = .bool (anyU may n) ∧ Hid (ResAt wr wq rb sb n lo has woken may x g n))
    case first =>
      go_wp2_with fail
      refine (resume_any hn (unhide HG) (unhide HC) (unhide H143) hy hW hGv bx bG ex _ (.inl ⟨hx, rfl⟩)).mono ?_
      rintro e w1 ⟨rfl, hR⟩
      rw [← unhide hmay] at hR ⊢
      have HR := hide hR
      clear hR
      go_wp2_with fail
      go_meet
      exact ⟨rfl, unhide HR⟩
    case rest =>
      obtain ⟨rfl, hR⟩ := hcut
      rename World => wq
      have hBq : Below w.heap.size w wq := (unhide HB).trans ((unhide hR).2.mono hrb)
      exact (by assumption : ∀ (a : Act) (w0 : World), Code.wp Yba.prog tail9 (bodyPost Yba.prog Yba.f5 fun e w' => e = .returned (.bool true) ∧ Below w.heap.size w w') a w0 → _) _ _ (law_t9 hn (unhide hmay) ((unhide HI).later hBq) (unhide hR) hBq bx by' bW bG bex)
  · have d1 : decide ((ex : Int) < (n : Int)) = false := by simp; omega
    have Hx := hide hx
    clear hx
    go_upto_region 20 with fail
    go_cut [21] (fun s21 wq => s21 = .bool (anyU may n) ∧ Hid (ResAt wr wq rb sb n lo has woken may x g n))
    case first =>
      go_wp2_with fail
      refine (resume_any hn (unhide HG) (unhide HC) (unhide H143) hy hW hGv bx bG ex _ (.inr ⟨by have := unhide Hx; omega, rfl⟩)).mono ?_
      rintro e w1 ⟨rfl, hR⟩
      rw [← unhide hmay] at hR ⊢
      have HR := hide hR
      clear hR
      go_wp2_with fail
      go_meet
      exact ⟨rfl, unhide HR⟩
    case rest =>
      obtain ⟨rfl, hR⟩ := hcut
      rename World => wq
      have hBq : Below w.heap.size w wq := (unhide HB).trans ((unhide hR).2.mono hrb)
      exact (by assumption : ∀ (a : Act) (w0 : World), Code.wp Yba.prog tail9 (bodyPost Yba.prog Yba.f5 fun e w' => e = .returned (.bool true) ∧ Below w.heap.size w w') a w0 → _) _ _ (law_t9 hn (unhide hmay) ((unhide HI).later hBq) (unhide hR) hBq bx by' bW bG bex)

end Go.Proofs.Ybulkbtik

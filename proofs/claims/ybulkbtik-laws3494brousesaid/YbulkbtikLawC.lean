import Derived.Test.YbulkbtikArr
namespace Go.Proofs.Ybulkbtik
open Go.Conc Go.RowKit Go.MuLone
set_option linter.unusedVariables false
set_option linter.unusedSimpArgs false

def sndSeq : Code → Code | .seq _ b => b | c => c
/-- What is left of the law's body behind its k-th statement: taken out of the loaded function, not typed. -/
noncomputable def tail5 : Code := sndSeq (sndSeq (sndSeq (sndSeq (sndSeq (Yba.f5.body.getD .skip)))))
noncomputable def tail9 : Code := sndSeq (sndSeq (sndSeq (sndSeq tail5)))

/-- The law's first argument, as cells. -/
def Ws (w : World) (aw : Option Addr) (n : Nat) (has woken : Nat → Bool) (x : Nat → Int) : Prop :=
  n = 0 ∨ ∃ b o, aw = some ⟨b, o, none⟩ ∧ ∀ i, i < n → w.cell? ⟨b, o + i * 3, none⟩ = some (.bool (has i)) ∧ w.cell? ⟨b, o + i * 3 + 1, none⟩ = some (.int .i16 (x i)) ∧ w.cell? ⟨b, o + i * 3 + 2, none⟩ = some (.bool (woken i))
theorem Ws.later {w w' : World} {aw : Option Addr} {n : Nat} {has woken : Nat → Bool} {x : Nat → Int} (h : Ws w aw n has woken x) (hB : Below w.heap.size w w') : Ws w' aw n has woken x := by
  rcases h with h | ⟨b, o, rfl, hc⟩
  · exact .inl h
  · exact .inr ⟨b, o, rfl, fun i hi => ⟨cell_stays hB (hc i hi).1, cell_stays hB (hc i hi).2.1, cell_stays hB (hc i hi).2.2⟩⟩

set_option maxHeartbeats 4000000 in
set_option maxRecDepth 100000 in
theorem law_t9 {w w0 wr : World} {aw : Option Addr} {n cw ex rb sb : Nat} {lo : Nat → Nat} {has woken may : Nat → Bool} {x : Nat → Int} {he hw : Bool} {y W G : Int} {g : Nat → Value} (hn : n ≤ 1024) (hmay0 : may = mayOf ex has x he hw y W G)
    (hI : Ws wr aw n has woken x) (hRes : ResAt w0 wr rb sb n lo has woken may x g n) (hB : Below w.heap.size w wr) (bx : ∀ k, -32768 ≤ x k ∧ x k ≤ 32767) (by' : -32768 ≤ y ∧ y ≤ 32767) (bW : -32768 ≤ W ∧ W ≤ 32767) (bG : -32768 ≤ G ∧ G ≤ 32767) (bex : ex ≤ n) {u6 u7 u8 u9 u10 u11 u12 u13 u14 u16 u17 u18 u20 u22 u23 u24 u25 u26 u27 u28 u29 u30 u31 u32 u33 u34 u35 u36 u37 u38 u39 u40 u41 u42 u43 u44 u45 u46 u47 u48 u49 u50 u51 u52 u53 u54 u55 u56 u57 u58 u59 u60 u61 u62 u63 u64 u65 u66 u67 u68 u69 u70 u71 u72 u73 u74 u75 u76 u77 u78 u79 u80 u81 u82 u83 u84 u85 u86 u87 u88 u89 u90 u91 u92 u93 u94 u95 u96 u97 u98 u99 u100 u101 u102 u103 u104 u105 u106 u107 u108 u109 u110 u111 u112 u113 u114 u115 u116 u117 u118 u119 u120 u121 u122 u123 u124 u125 u126 u127 u128 u129 u130 u131 u132 u133 u134 u135 u136 u137 u138 u139 u140 u141 u142 u143 u144 u145 u146 u147 u148 u149 u150 u151 u152 u153 u154 u155 u156 u157 u158 u159 u160 u161 u162 u163 u164 u165 u166 u167 u168 u169 u170 u171 u172 u173 u174 u175 u176 u177 u178 u179 u180 u181 u182 u183 u184 u185 u186 u187 u188 u189 u190 u191 u192 u193 u194 u195 u196 u197 u198 u199 u200 u201 u202 u203 u204 u205 u206 u207 u208 u209 u210 u211 u212 u213 u214 u215 u216 u217 u218 u219 u220 u221 u222 u223 u224 u225 u226 u227 u228 u229 u230 u231 u232 u233 u234 : Value} :
    Code.wp Yba.prog tail9 (bodyPost Yba.prog Yba.f5 fun e w' => e = .returned (.bool true) ∧ Below w.heap.size w w') ⟨#[.slice aw n cw, .int .i16 y, .bool he, .int .i16 W, .bool hw, .int .i16 G, u6, u7, u8, u9, u10, u11, u12, u13, u14, .pointer (some ⟨rb, 0, none⟩), u16, u17, u18, .int .i64 (ex : Int), u20, .bool (anyU may n), u22, u23, u24, u25, u26, u27, u28, u29, u30, u31, u32, u33, u34, u35, u36, u37, u38, u39, u40, u41, u42, u43, u44, u45, u46, u47, u48, u49, u50, u51, u52, u53, u54, u55, u56, u57, u58, u59, u60, u61, u62, u63, u64, u65, u66, u67, u68, u69, u70, u71, u72, u73, u74, u75, u76, u77, u78, u79, u80, u81, u82, u83, u84, u85, u86, u87, u88, u89, u90, u91, u92, u93, u94, u95, u96, u97, u98, u99, u100, u101, u102, u103, u104, u105, u106, u107, u108, u109, u110, u111, u112, u113, u114, u115, u116, u117, u118, u119, u120, u121, u122, u123, u124, u125, u126, u127, u128, u129, u130, u131, u132, u133, u134, u135, u136, u137, u138, u139, u140, u141, u142, u143, u144, u145, u146, u147, u148, u149, u150, u151, u152, u153, u154, u155, u156, u157, u158, u159, u160, u161, u162, u163, u164, u165, u166, u167, u168, u169, u170, u171, u172, u173, u174, u175, u176, u177, u178, u179, u180, u181, u182, u183, u184, u185, u186, u187, u188, u189, u190, u191, u192, u193, u194, u195, u196, u197, u198, u199, u200, u201, u202, u203, u204, u205, u206, u207, u208, u209, u210, u211, u212, u213, u214, u215, u216, u217, u218, u219, u220, u221, u222, u223, u224, u225, u226, u227, u228, u229, u230, u231, u232, u233, u234], []⟩ wr := by
  have HI := hide hI
  have HR := hide hRes
  have HB := hide hB
  have hmay := hide hmay0
  clear hI hRes hB hmay0
  have c14 : wr.cell? ⟨rb, 14, none⟩ = some (.slice (some ⟨sb, 0, none⟩) n n) := ((unhide HR).1.run.cell (by omega)).trans (by rw [(unhide HR).1.g14])
  have c143 : wr.cell? ⟨rb, 143, none⟩ = some (.int .i64 ((cntU may woken n : Nat) : Int)) := ((unhide HR).1.run.cell (by omega)).trans (by simp [runOn])
  have hcl := cntU_le may woken
  conv => arg 2; simp only [tail9, tail5, Yba.f5, Option.getD_some, sndSeq]
  go_wp2_with fail
  go_loopw [22, 23, 128] (fun wv av iv wx => ∃ i : Nat, i ≤ n ∧ iv = .int .i64 (i : Int) ∧ wv = .bool (anyU may i) ∧ av = .int .i64 ((cntU may woken i : Nat) : Int) ∧ wx = wr) (fun _ _ iv _ => n - (intOf iv).toNat)
  case atStart => exact ⟨0, Nat.zero_le _, rfl, rfl, rfl, rfl⟩
  case round =>
    rename World => wx
    obtain ⟨i, hi, rfl, rfl, rfl, rfl⟩ := hrel
    by_cases hlt : i < n
    · rcases unhide HI with hI | ⟨b, o, rfl, hc⟩
      · omega
      have d0 := (hc i hlt).1
      have d1 := (hc i hlt).2.1
      have d2 := (hc i hlt).2.2
      clear hc
      have i0 : (0 : Int) ≤ (i : Int) := by omega
      have i1 : (i : Int) < (n : Int) := by omega
      have bxi := bx i
      have hci := hcl i
      go_upto_region 27 with fail
      go_cut [26] (fun s26 wq => s26 = .bool (may i) ∧ wq = wx)
      case first =>
        by_cases hie : i = ex
        · subst hie
          have hm : may i = false := by rw [unhide hmay]; simp [mayOf]
          go_wp2_with fail
          go_meet
          exact ⟨by rw [hm], rfl⟩
        · have t1 : ((i : Int) == (ex : Int)) = false := by simp; omega
          have t2 : ¬ ((i : Int) = (ex : Int)) := by omega
          have t3 : ((i : Int) != (ex : Int)) = true := by simp; omega
          have Hie := hide hie
          clear hie
          have w32 : IntKind.i32.wrap (x i - G) = x i - G := by rw [IntKind.wrap_i32]; omega
          cases hh : has i
          · rw [hh] at d0
            have hm : may i = false := by rw [unhide hmay]; simp [mayOf, hh]
            have Hh := hide hh
            clear hh
            go_wp2_with fail
            go_meet
            exact ⟨by rw [hm], rfl⟩
          · rw [hh] at d0
            have e1 : may i = mayGo he hw (x i) y W G := by rw [unhide hmay]; simp [mayOf, hh, unhide Hie]
            have E1 := hide e1
            have Hh := hide hh
            clear hh e1
            cases he
            · have e1 := unhide E1
              clear E1
              cases hw
              · have e2 : may i = true := by rw [e1]; simp [mayGo, Bool.false_and]
                go_wp2_with fail
                go_meet
                exact ⟨by rw [e2], rfl⟩
              · by_cases hgx : W < x i - G
                · have dg : decide (W < x i - G) = true := by simp [hgx]
                  have e2 : may i = false := by rw [e1]; simp [mayGo, hgx]
                  have Hgx := hide hgx
                  clear hgx
                  go_wp2_with fail
                  go_meet
                  exact ⟨by rw [e2], rfl⟩
                · have dg : decide (W < x i - G) = false := by simp; omega
                  have e2 : may i = true := by rw [e1]; simp [mayGo, Bool.false_and]; omega
                  have Hgx := hide hgx
                  clear hgx
                  go_wp2_with fail
                  go_meet
                  exact ⟨by rw [e2], rfl⟩
            · by_cases hyx : y ≤ x i
              · have dy : decide (y ≤ x i) = true := by simp [hyx]
                have e2 : may i = false := by rw [unhide E1]; simp [mayGo, hyx]
                have Hyx := hide hyx
                clear hyx
                go_wp2_with fail
                go_meet
                exact ⟨by rw [e2], rfl⟩
              · have dy : decide (y ≤ x i) = false := by simp; omega
                have dx : ¬ y ≤ x i := hyx
                have e1 : may i = mayGo true hw (x i) y W G := unhide E1
                have Hyx := hide hyx
                clear hyx E1
                cases hw
                · have e2 : may i = true := by rw [e1]; simp [mayGo, dx]
                  go_wp2_with fail
                  go_meet
                  exact ⟨by rw [e2], rfl⟩
                · by_cases hgx : W < x i - G
                  · have dg : decide (W < x i - G) = true := by simp [hgx]
                    have e2 : may i = false := by rw [e1]; simp [mayGo, hgx]
                    have Hgx := hide hgx
                    clear hgx
                    go_wp2_with fail
                    go_meet
                    exact ⟨by rw [e2], rfl⟩
                  · have dg : decide (W < x i - G) = false := by simp; omega
                    have e2 : may i = true := by rw [e1]; simp [mayGo, dx]; omega
                    have Hgx := hide hgx
                    clear hgx
                    go_wp2_with fail
                    go_meet
                    exact ⟨by rw [e2], rfl⟩
      case rest =>
        obtain ⟨rfl, hwc⟩ := hcut
        subst hwc
        obtain ⟨f, hwk⟩ := (unhide HR).1.wk i hlt
        have hws := (unhide HR).1.ws.cell hlt
        have hwo : wokenAt may woken n i = (woken i || may i) := by simp [wokenAt, hlt]
        rw [hwo] at hwk
        have k3 := (hwk.row.cell (i := 3) (by omega)).trans (by rw [hwk.f3])
        have k4 := (hwk.row.cell (i := 4) (by omega)).trans (by rw [hwk.f4])
        have k135 := hwk.row.cell (i := 135) (by omega)
        have hq := hwk.q
        have HR2 := hide hwk
        clear hwk hwo
        cases hm : may i <;> cases hwo1 : woken i <;> cases hhs : has i
        all_goals (
          simp only [hwo1, hm, Bool.or_false, Bool.or_true, Bool.false_or, Bool.true_or] at k3 k4
          rw [hwo1] at d2
          rw [hhs] at d0 hq
          rcases hq with ⟨h, h2⟩ | ⟨h, qb, cap, v, s4, h2, _, _, _, _⟩
          all_goals (first
            | (cases h; done)
            | (rw [h2] at k135
               have Hm := hide hm
               have Hwo1 := hide hwo1
               try rw [hm]
               clear hm hwo1 hhs h h2
               go_wp2_with (first | (go_at_call 11; refine (bload_any (lo i + 1) 4 _ _ k4).mono ?_; rintro e w1 ⟨rfl, rfl⟩) | fail)
               refine ⟨⟨i + 1, by omega, rfl, ?_, ?_, by first | rfl | trivial⟩, by simp [intOf]; omega⟩
               · simp [anyU, unhide Hm]
               · simp [cntU, unhide Hm, unhide Hwo1])))
    · obtain rfl : n = i := by omega
      go_wp2_with (first | (go_at_call 12; refine (iload_any rb 143 _ _ c143).mono ?_; rintro e w1 ⟨rfl, rfl⟩) | fail)
      go_ret
      exact ⟨by simp, unhide HB⟩

end Go.Proofs.Ybulkbtik

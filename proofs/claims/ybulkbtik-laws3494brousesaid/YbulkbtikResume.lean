import Derived.Test.YbulkbtikGrp
namespace Go.Proofs.Ybulkbtik
open Go.Conc Go.RowKit Go.MuLone
set_option linter.unusedVariables false
set_option linter.unusedSimpArgs false

def mayOf (ex : Nat) (has : Nat → Bool) (x : Nat → Int) (he hw : Bool) (y W G : Int) : Nat → Bool := fun k => decide (k ≠ ex) && has k && mayGo he hw (x k) y W G

theorem neq_nil (a : Addr) (w : World) : (binOp .neq 24 (.pointer (some a)) (.pointer none)).run Yba.prog w = .ok (.bool true) w :=
  run_neq_pointer_nil w 24 (some a) (by kernel_rfl)

set_option maxHeartbeats 4000000 in
theorem resume_any {w : World} {rb sb n : Nat} {lo : Nat → Nat} {has woken : Nat → Bool} {x : Nat → Int} {g : Nat → Value} {ve vw vg : Nat} {he hw : Bool} {y W G : Int} (hn : n ≤ 1024)
    (hGrp : Grp w rb sb n lo has woken x (fun _ => true) g) (hc : Cfg g ve vw vg he hw) (g143 : g 143 = .int .i64 0)
    (hy : Reads ve y) (hW : Reads vw W) (hGv : Reads vg G) (bx : ∀ k, -32768 ≤ x k ∧ x k ≤ 32767) (bG : -32768 ≤ G ∧ G ≤ 32767)
    (ex : Nat) (exv : Value) (hex : (ex < n ∧ exv = .pointer (some ⟨lo ex + 1, 0, none⟩)) ∨ (n ≤ ex ∧ exv = .pointer none)) :
    Calls Yba.prog 10 #[.pointer (some ⟨rb, 0, none⟩), exv] w fun e w' => e = .returned (.bool (anyU (mayOf ex has x he hw y W G) n)) ∧
      ResAt w w' rb sb n lo has woken (mayOf ex has x he hw y W G) x g n := by
  obtain ⟨may, hmay⟩ : ∃ may, Hid (may = mayOf ex has x he hw y W G) := ⟨_, rfl⟩
  have HG := hide hGrp
  have HC := hide hc
  have c14 : w.cell? ⟨rb, 14, none⟩ = some (.slice (some ⟨sb, 0, none⟩) n n) := (hGrp.run.cell (by omega)).trans (by rw [hGrp.g14])
  have Hex := hide hex
  have H143 := hide g143
  clear hGrp hc hex g143
  rw [← unhide hmay]
  go_enter Yba.func10, Yba.ntmps10
  go_wp2_with fail
  go_loopw [5, 13] (fun rv iv wr => ∃ i : Nat, i ≤ n ∧ iv = .int .i64 (i : Int) ∧ rv = .bool (anyU may i) ∧ Hid (ResAt w wr rb sb n lo has woken may x g i)) (fun _ iv _ => n - (intOf iv).toNat)
  case atStart =>
    refine ⟨0, Nat.zero_le _, rfl, rfl, ?_, Below.refl _ _⟩
    have h := unhide HG
    refine ⟨h.run.congr fun j hj => ?_, by simp [runOn, h.g14], h.ws, h.rbsb, h.sblo, h.top, fun k hk => ?_⟩
    · simp only [runOn, cntU]
      by_cases c : j = 143
      · simp [c, unhide H143]
      · simp [c]
    · obtain ⟨f, hf⟩ := h.wk k hk
      refine ⟨f, ?_⟩
      have e1 : wokenAt may woken 0 k = woken k := by simp [wokenAt]
      rw [e1]
      simpa using hf
  case round =>
    obtain ⟨i, hi, rfl, rfl, hW'⟩ := hrel
    by_cases hlt : i < n
    · have hR := unhide hW'
      have hcell : wr.cell? ⟨sb, i, none⟩ = some (.pointer (some ⟨lo i + 1, 0, none⟩)) := hR.1.ws.cell hlt
      obtain ⟨f, hwk⟩ := hR.1.wk i hlt
      have e1 : wokenAt may woken i i = woken i := by simp [wokenAt]
      have e2 : decide (i ≤ i) = true := by simp
      rw [e1, e2] at hwk
      have Hwk := hide hwk
      clear hwk e1 e2 hR
      have i0 : (0 : Int) ≤ (i : Int) := by omega
      have i1 : (i : Int) < (n : Int) := by omega
      by_cases hie : i = ex
      · have hm : may i = false := by rw [unhide hmay]; simp [mayOf, hie]
        rcases unhide Hex with ⟨hlt', rfl⟩ | ⟨hge, _⟩
        · subst hie
          have hneq := neq_same ⟨lo i + 1, 0, none⟩ wr
          go_wp2_with fail
          refine ⟨⟨i + 1, by omega, rfl, ?_, (unhide hW').skip hlt hm (Below.refl _ _)⟩, by simp [intOf]; omega⟩
          simp [anyU, hm]
        · omega
      · have hneq : (binOp .neq 24 (.pointer (some ⟨lo i + 1, 0, none⟩)) exv).run Yba.prog wr = .ok (.bool true) wr := by
          rcases unhide Hex with ⟨hlt', rfl⟩ | ⟨hge, rfl⟩
          · have hG1 := (unhide hW').1
            obtain ⟨f2, hwk2⟩ := hG1.wk ex hlt'
            obtain ⟨ca, ha, _⟩ := (unhide Hwk).row
            obtain ⟨cb, hb, _⟩ := hwk2.row
            refine neq_other (fun h => ?_) ha hb
            have hll : lo i + 1 = lo ex + 1 := by simpa using h
            rcases Nat.lt_or_ge i ex with c | c
            · have := hG1.mono i hlt; have := hG1.le (i := i + 1) (j := ex) (by omega) (by omega); omega
            · have := hG1.mono ex hlt'; have := hG1.le (i := ex + 1) (j := i) (by omega) (by omega); omega
          · exact neq_nil _ _
        have Hie := hide hie
        clear hie
        cases hhas : has i
        · have hm : may i = false := by rw [unhide hmay]; simp [mayOf, hhas]
          have q135 : wr.cell? ⟨lo i + 1, 135, none⟩ = some (.slice none 0 0) := by
            rcases (unhide Hwk).q with ⟨_, h⟩ | ⟨h, _⟩
            · exact ((unhide Hwk).row.cell (by omega)).trans (by rw [h])
            · rw [hhas] at h; cases h
          have Hhas := hide hhas
          clear hhas
          go_wp2_with fail
          refine (next_none (lo i + 1) _ q135).mono ?_
          rintro e w1 ⟨rfl, hB⟩
          go_wp2_with fail
          refine ⟨⟨i + 1, by omega, rfl, ?_, (unhide hW').skip hlt hm hB⟩, by simp [intOf]; omega⟩
          simp [anyU, hm]
        · obtain ⟨qb, cap, v, s4, q1, q2, q3, q4, q5⟩ : ∃ qb cap v s4, f 135 = .slice (some ⟨qb, 0, none⟩) 1 cap ∧ lo i + 1 < qb ∧ qb < lo (i + 1) ∧ wr.rangeAt qb 0 (slL v s4) ∧ Reads v (x i) := by
            rcases (unhide Hwk).q with ⟨h, _⟩ | ⟨_, h⟩
            · rw [hhas] at h; cases h
            · exact h
          have Hq1 := hide q1
          have Hq4 := hide q4
          have Hhas := hide hhas
          clear q1 q4 hhas
          have hnext := next_some (w := wr) (wb := lo i + 1) (unhide Hwk).row (unhide hW').1.run (unhide Hwk).f134 (unhide Hq1) (unhide Hwk).f138 (unhide Hq4) (cfg_runOn (unhide HC) _) q5 hy hW hGv (bx i) bG
          have Hnext := hide hnext
          clear hnext
          cases hmg : mayGo he hw (x i) y W G
          · have hm : may i = false := by rw [unhide hmay]; simp [mayOf, hmg]
            have Hmg := hide hmg
            clear hmg
            go_wp2_with fail
            refine (unhide Hnext).mono ?_
            rintro e w1 ⟨rfl, hB⟩
            rw [unhide Hmg]
            go_wp2_with fail
            refine ⟨⟨i + 1, by omega, rfl, ?_, (unhide hW').skip hlt hm hB⟩, by simp [intOf]; omega⟩
            simp [anyU, hm]
          · have hm : may i = true := by rw [unhide hmay]; simp [mayOf, hmg, unhide Hhas, unhide Hie]
            have Hmg := hide hmg
            clear hmg
            go_wp2_with fail
            refine (unhide Hnext).mono ?_
            rintro e w1 ⟨rfl, hB⟩
            rw [unhide Hmg]
            go_wp2_with fail
            have hG1 := (unhide hW').1
            have hU : lo (i + 1) ≤ lo n := hG1.le (by omega) (Nat.le_refl _)
            have hwk1 := (unhide Hwk).stays (w' := w1) fun j _ hj => hB.block j (by have := hG1.top; omega)
            have hrun1 := hG1.run.of_block (hB.block rb hG1.run.lt)
            have h0i : lo 0 ≤ lo i := hG1.le (Nat.zero_le _) (by omega)
            have := hG1.sblo
            have := hG1.rbsb
            have hcl := cntU_le may woken i
            refine (rouse_any (x := (cntU may woken i : Nat)) hwk1.row hrun1 (hwk1.ch rfl) hwk1.f0 hwk1.f3 hwk1.f4 hwk1.f5 hwk1.f134 (by simp [runOn]) (by omega) (by omega) (by omega) (by omega)).mono ?_
            rintro e w2 ⟨rfl, hRo⟩
            have hfin := hide ((unhide hW').rouse hlt hm hB hwk1 hRo)
            clear hRo hwk1 hrun1
            go_wp2_with fail
            refine ⟨⟨i + 1, by omega, rfl, ?_, hfin⟩, by simp [intOf]; omega⟩
            simp [anyU, hm]
    · obtain rfl : n = i := by omega
      go_wp2_with fail
      go_ret
      exact ⟨rfl, unhide hW'⟩

end Go.Proofs.Ybulkbtik

import Derived.Test.YbulkbtikRows
import Derived.Test.YbulkbtikLawA
import Derived.Test.YbulkbtikRow
import Derived.WalkKit
import Derived.ProofKit
import Derived.OpenShut
import Derived.ShutString
import Derived.ChangeOld
import Derived.Below
namespace Go.Proofs.Ybulkbtik.lawS3494BRouse
open Go.ChangeShapes Go.WideShapes Go.ChangeAt Go.RowKit
set_option linter.unusedVariables false

theorem own : ownKnob Yba.prog.godebug = none := by kernel_rfl
theorem laidOut : laidOutB Yba.prog = true := by kernel_rfl

set_option maxRecDepth 100000 in
/-- More than 1024 workers: true at once. -/
theorem long_any (ai : Option Addr) (n ci : Nat) (a1 a3 a5 a6 : Int) (b2 b4 : Bool) (w : World) (hn : 1024 < n) (hl : n ≤ maxLen) :
    Calls Yba.prog 5 #[.slice ai n ci, .int .i16 a1, .bool b2, .int .i16 a3, .bool b4, .int .i16 a5, .int .u8 a6] w fun e w' => e = .returned (.bool true) ∧ Below w.heap.size w w' := by
  go_enter Yba.func5, Yba.ntmps5
  have h1 : decide ((1024 : Int) < (n : Int)) = true := by simp; omega
  have h2 : decide (1024 < n) = true := by simp; omega
  go_wp2_with fail
  first | (go_ret; exact ⟨rfl, Below.refl _ _⟩) | exact ⟨rfl, Below.refl _ _⟩

theorem walk (a0 : Option Addr) (len0 cap0 : Nat) (a1 : Int) (b2 : Bool) (a3 : Int) (b4 : Bool) (a5 a6 : Int) (w : World)
    (w0 : ∃ (has woken : Nat → Bool) (xs : Nat → Int), Ws w a0 len0 has woken xs ∧ (∀ i, -32768 ≤ xs i ∧ xs i ≤ 32767) ∧ len0 ≤ maxLen)
    (w1 : (Lit.int .i16 a1).wf = true) (w3 : (Lit.int .i16 a3).wf = true) (w5 : (Lit.int .i16 a5).wf = true) (w6 : (Lit.int .u8 a6).wf = true) :
    Calls Yba.prog 5 #[.slice a0 len0 cap0, .int .i16 a1, .bool b2, .int .i16 a3, .bool b4, .int .i16 a5, .int .u8 a6] w fun e w' => e = .returned (.bool true) ∧ Below w.heap.size w w' := by
  obtain ⟨has, woken, xs, hI, hb, hl⟩ := w0
  by_cases hn : len0 ≤ 1024
  · obtain ⟨m6, rfl, b6⟩ := u8_wf w6
    exact law_any hn b6 hI hb (i16_wf w1) (i16_wf w3) (i16_wf w5)
  · exact long_any _ _ _ _ _ _ _ _ _ _ (by omega) hl

set_option maxRecDepth 100000 in
theorem lifted (os : Os) (started : os.Started) (H : Type) (enc : TypeId × Value → H) :
    ReturnsInHanded {} Yba.checked os 5 .any (Rows.lawS3494BRouseSpec.pre6 enc Yba.prog Yba.f5 Rows.lawS3494BRouseRow.domain false) (Rows.lawS3494BRouseSpec.post enc Yba.prog Yba.f5 false true false false) := by
  refine returnsInHanded_of_change (C := Yba.checked) own started (by kernel_rfl) Yba.func5
    (ChangeSpec.witness6 (enc := enc) (C := Yba.checked) false ⟨#[], #[.slice none 0 0, .int .i16 0, .bool false, .int .i16 0, .bool false, .int .i16 0, .int .u8 0], []⟩ 8 (by kernel_rfl) (by kernel_rfl) (by kernel_rfl) (by kernel_rfl)) ?_
  intro W base args ds gs before hval0 hW hcnd _
  have hval : ∀ (j : Nat) t v, Yba.f5.params[j]? = some t → args[j]? = some v → Value.okWide Yba.prog W .any base t v := hval0
  have hW' := hW
  obtain ⟨p, q, hA0, hV, rfl, hfz, hnd⟩ := hW
  have hA : DataW.TrodAll enc Yba.prog W 0 (fun _ => true) true Yba.f5.params.toList args.toList ds p := hA0
  rw [Yba.params5] at hA hval
  obtain ⟨v0, vs0, d0, ds0, p0, q0, hargs, rfl, rfl, h0, r0⟩ := trodAll_cons hA
  obtain ⟨v1, vs1, d1, ds1, p1, q1, rfl, rfl, rfl, h1, r1⟩ := trodAll_cons r0
  obtain ⟨v2, vs2, d2, ds2, p2, q2, rfl, rfl, rfl, h2, r2⟩ := trodAll_cons r1
  obtain ⟨v3, vs3, d3, ds3, p3, q3, rfl, rfl, rfl, h3, r3⟩ := trodAll_cons r2
  obtain ⟨v4, vs4, d4, ds4, p4, q4, rfl, rfl, rfl, h4, r4⟩ := trodAll_cons r3
  obtain ⟨v5, vs5, d5, ds5, p5, q5, rfl, rfl, rfl, h5, r5⟩ := trodAll_cons r4
  obtain ⟨v6, vs6, d6, ds6, p6, q6, rfl, rfl, rfl, h6, r6⟩ := trodAll_cons r5
  obtain ⟨rfl, rfl, rfl⟩ := trodAll_nil r6
  obtain rfl : args = #[v0, v1, v2, v3, v4, v5, v6] := by cases args; simp_all
  obtain ⟨rfl, rfl⟩ := trodVars_none hV
  obtain ⟨a0, len0, cap0, rfl⟩ := okWide_slice Yba.underlying75 (hval 0 75 v0 rfl rfl)
  have k0 := h0
  have lt0 : ∀ x ∈ p0, x.block < W.heap.size := by obtain ⟨m, hm⟩ := k0; exact DataW.trod_lt m _ _ _ hm
  have w0 : ∃ (has woken : Nat → Bool) (xs : Nat → Int), Ws W a0 len0 has woken xs ∧ (∀ i, -32768 ≤ xs i ∧ xs i ≤ 32767) ∧ len0 ≤ maxLen := by obtain ⟨fuel, hf⟩ := h0; exact open_ws hf
  obtain ⟨a1, rfl, rfl, rfl, w1⟩ := open_int Yba.underlying22 (hval 1 22 v1 rfl rfl) h1
  obtain ⟨b2, rfl, rfl, rfl⟩ := open_bool Yba.underlying4 (hval 2 4 v2 rfl rfl) h2
  obtain ⟨a3, rfl, rfl, rfl, w3⟩ := open_int Yba.underlying22 (hval 3 22 v3 rfl rfl) h3
  obtain ⟨b4, rfl, rfl, rfl⟩ := open_bool Yba.underlying4 (hval 4 4 v4 rfl rfl) h4
  obtain ⟨a5, rfl, rfl, rfl, w5⟩ := open_int Yba.underlying22 (hval 5 22 v5 rfl rfl) h5
  obtain ⟨a6, rfl, rfl, rfl, w6⟩ := open_int Yba.underlying5 (hval 6 5 v6 rfl rfl) h6
  clear hA0 hval0
  refine (walk a0 len0 cap0 a1 b2 a3 b4 a5 a6 W w0 w1 w3 w5 w6).mono fun e W' ⟨he, bel⟩ => ?_
  subst he
  exact ⟨_, rfl, _, _, _, [], _, [], hW', trodAll_mk1 (shut_bool Yba.underlying4 _), (trodAll_cons_mk (Below.trod laidOut (by kernel_rfl) (of_decide_eq_true (by kernel_rfl)) k0 bel lt0) (trodAll_cons_mk (shut_int Yba.underlying22 w1) (trodAll_cons_mk (shut_bool Yba.underlying4 _) (trodAll_cons_mk (shut_int Yba.underlying22 w3) (trodAll_cons_mk (shut_bool Yba.underlying4 _) (trodAll_cons_mk (shut_int Yba.underlying22 w5) (trodAll_cons_mk (shut_int Yba.underlying5 w6) trodAll_mk0))))))), rfl, bel.frame _, fun h => by cases h⟩

theorem over : Rows.lawS3494BRouseRow.holds Yba.pinned (OpenSpec.ofChange Rows.lawS3494BRouseSpec) :=
  OpenClaim.holds_of_wide 5 Yba.f5 rfl rfl rfl rfl rfl rfl rfl ⟨rfl, rfl, rfl, rfl, rfl⟩ rfl rfl rfl rfl rfl (by kernel_rfl) Yba.func5 (by kernel_rfl)
    (of_decide_eq_true (by kernel_rfl)) (by unfold Func.isWrapper; first | (rw [if_pos (by decide +kernel)]; kernel_rfl) | (rw [if_neg (by decide +kernel)]; exact ⟨rfl, rfl⟩))
    (fun os started H enc _ => lifted os started H enc)

theorem proved : Rows.LawS3494BRouseSaid := over
end Go.Proofs.Ybulkbtik.lawS3494BRouse

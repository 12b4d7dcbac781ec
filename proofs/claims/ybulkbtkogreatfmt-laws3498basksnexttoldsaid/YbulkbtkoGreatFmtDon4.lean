import Derived.Test.YbulkbtkoGreatFmtCards
import Derived.Test.YbulkbtkoGreatFmtMd
import Derived.Test.YbulkbtkoGreatFmtMe
import Derived.Test.YbulkbtkoGreatFmtRow
import Derived.ProofKit
import Derived.Stop.JoinedAt
import Derived.Stop.Texts
import Derived.Stop.JoinedTold
import Derived.SizedLaws
import Derived.OpenShut
import Derived.ChangeOld
import Derived.Below
import Derived.SevenToldRow
namespace Go.Proofs.YbulkbtkoGreatFmt
open Go.ChangeShapes Go.WideShapes Go.ChangeAt Go.RowKit Go.Kit
open Go.Extern.Stop Go.Stop Go.Extern
set_option linter.unusedVariables false

theorem ownNone : ownKnob Ybaz.prog.godebug = none := by kernel_rfl
theorem laidOutZ : laidOutB Ybaz.pinned.checked.prog = true := by kernel_rfl
theorem laidOutP : laidOutB Ybaz.prog = true := by kernel_rfl
theorem stopsZ : Ybaz.pinned.checked.prog.stops = ["fmt.Sprintf"] := by kernel_rfl
theorem stopKnobsZ : Ybaz.pinned.checked.prog.stopKnobs = [] := by kernel_rfl
theorem quietZ (os : Os) : Stop.quiet Ybaz.pinned.checked.prog os := by
  intro k hk
  rw [stopKnobsZ] at hk
  cases hk

theorem law4_any (a0 : Option Addr) (n0 c0 : Nat) (a1 : Int) (a2 : Option Addr) (n2 c2 : Nat) (a3 : Option Addr) (n3 c3 : Nat) (a4 : Option Addr) (n4 c4 : Nat) (a5 : Int) (a6 : Option Addr) (n6 c6 : Nat) (w : World)
    (w0 : ∃ ps : Nat → Nat, U8 w a0 n0 ps ∧ (∀ i, ps i < 256) ∧ n0 ≤ maxLen) (w1 : (Lit.int .u8 a1).wf = true) (w2 : ∃ ps : Nat → Nat, U8 w a2 n2 ps ∧ (∀ i, ps i < 256) ∧ n2 ≤ maxLen) (w3 : ∃ ps : Nat → Nat, U8 w a3 n3 ps ∧ (∀ i, ps i < 256) ∧ n3 ≤ maxLen) (w4 : ∃ ps : Nat → Nat, U8 w a4 n4 ps ∧ (∀ i, ps i < 256) ∧ n4 ≤ maxLen) (w5 : (Lit.int .u8 a5).wf = true)
    (w6 : ∃ (xn : Nat → Nat) (yc : Nat → Int), Bps w a6 n6 xn yc ∧ (∀ i, xn i < 256) ∧ (∀ i, -128 ≤ yc i ∧ yc i ≤ 127) ∧ n6 ≤ maxLen) :
    Calls Ybaz.prog 4 #[.slice a0 n0 c0, .int .u8 a1, .slice a2 n2 c2, .slice a3 n3 c3, .slice a4 n4 c4, .int .u8 a5, .slice a6 n6 c6] w fun e w' => e = .returned (.bool true) ∧ Below w.heap.size w w' := by
  obtain ⟨x0, hx0, b0, _⟩ := w0
  obtain ⟨x2, hx2, b2, _⟩ := w2
  obtain ⟨x3, hx3, b3, _⟩ := w3
  obtain ⟨x4, hx4, b4, _⟩ := w4
  obtain ⟨xn, yc, hx6, b6, b6', _⟩ := w6
  by_cases h0 : n0 = 0
  · exact cad0 _ _ _ _ _ _ _ _ _ _ _ _ _ _ _ _ _ _ h0
  by_cases h1 : n0 ≤ 300
  · by_cases h2 : n2 ≤ 300
    · by_cases h3 : n3 ≤ 300
      · by_cases h4 : n4 ≤ 300
        · by_cases h6 : n6 ≤ 300
          · obtain ⟨m1, rfl, d1⟩ := u8_wf w1
            obtain ⟨m5, rfl, d5⟩ := u8_wf w5
            exact law4_good h1 (by omega) hx0 b0 d1 h2 hx2 b2 h3 hx3 b3 h4 d5 hx4 b4 h6 hx6 b6 b6'
          · exact cad5 _ _ _ _ _ _ _ _ _ _ _ _ _ _ _ _ _ _ h0 h1 h2 h3 h4 (by omega)
        · exact cad4 _ _ _ _ _ _ _ _ _ _ _ _ _ _ _ _ _ _ h0 h1 h2 h3 (by omega)
      · exact cad3 _ _ _ _ _ _ _ _ _ _ _ _ _ _ _ _ _ _ h0 h1 h2 (by omega)
    · exact cad2 _ _ _ _ _ _ _ _ _ _ _ _ _ _ _ _ _ _ h0 h1 (by omega)
  · exact cad1 _ _ _ _ _ _ _ _ _ _ _ _ _ _ _ _ _ _ h0 (by omega)

set_option maxRecDepth 100000 in
theorem t4_lifted (os : Os) (started : os.Started) (H : Type) (enc : TypeId × Value → H) :
    ReturnsInTold none {} Ybaz.checked os 4 .any Input.okWide ((OpenSpec.ofChange Rows.lawS3498BAsksNextSpec).preRow enc Ybaz.prog Ybaz.f4 [] false []) (fun F => ((OpenSpec.ofChange Rows.lawS3498BAsksNextSpec).at F).post enc Ybaz.prog Ybaz.f4 false true false false) (aloneAtReturn Ybaz.prog) nothingAlways := by
  refine returnsInTold_of_row (C := Ybaz.checked) (s := OpenSpec.ofChange Rows.lawS3498BAsksNextSpec) (by kernel_rfl) ownNone started (by kernel_rfl) Ybaz.func4
    (OpenSpec.witness_stopped (enc := enc) (C := Ybaz.checked) false ⟨#[], #[.slice none 0 0, .int .u8 0, .slice none 0 0, .slice none 0 0, .slice none 0 0, .int .u8 0, .slice none 0 0], []⟩ 8 (by kernel_rfl) (by kernel_rfl) (by kernel_rfl) (by kernel_rfl)) ?_
  intro F W base args ds gs before _ hF hval0 hW _ _ hsz _ _
  have hval : ∀ (j : Nat) t v, Ybaz.f4.params[j]? = some t → args[j]? = some v → Value.okWide Ybaz.prog W .any base t v := hval0
  have hW' := hW
  obtain ⟨p, q, hA0, hV, rfl, hfz, hnd⟩ := hW
  have hA : DataW.TrodAll enc Ybaz.prog W 0 (fun _ => true) true Ybaz.f4.params.toList args.toList ds p := hA0
  rw [Ybaz.params4] at hA hval
  obtain ⟨v0, vs0, d0, ds0, p0, q0, hargs, rfl, rfl, h0, r0⟩ := trodAll_cons hA
  obtain ⟨v1, vs1, d1, ds1, p1, q1, rfl, rfl, rfl, h1, r1⟩ := trodAll_cons r0
  obtain ⟨v2, vs2, d2, ds2, p2, q2, rfl, rfl, rfl, h2, r2⟩ := trodAll_cons r1
  obtain ⟨v3, vs3, d3, ds3, p3, q3, rfl, rfl, rfl, h3, r3⟩ := trodAll_cons r2
  obtain ⟨v4, vs4, d4, ds4, p4, q4, rfl, rfl, rfl, h4, r4⟩ := trodAll_cons r3
  obtain ⟨v5, vs5, d5, ds5, p5, q5, rfl, rfl, rfl, h5, r5⟩ := trodAll_cons r4
  obtain ⟨v6, vs6, d6, ds6, p6, q6, rfl, rfl, rfl, h6, r6⟩ := trodAll_cons r5
  obtain ⟨rfl, rfl, rfl⟩ := trodAll_nil r6
  obtain rfl : args = #[v0, v1, v2, v3, v4, v5, v6] := by cases args; simp_all
  obtain ⟨rfl, rfl⟩ := trodVars_none hV
  obtain ⟨a0, n0, c0, rfl⟩ := okWide_slice Ybaz.underlying22 (hval 0 22 v0 rfl rfl)
  have k0 := h0
  have lt0 : ∀ x ∈ p0, x.block < W.heap.size := by obtain ⟨m, hm⟩ := k0; exact DataW.trod_lt m _ _ _ hm
  have w0 : ∃ ps : Nat → Nat, U8 W a0 n0 ps ∧ (∀ i, ps i < 256) ∧ n0 ≤ maxLen := by obtain ⟨fuel, hf⟩ := h0; exact open_u8 hf
  obtain ⟨a1, rfl, rfl, rfl, w1⟩ := open_int Ybaz.underlying5 (hval 1 5 v1 rfl rfl) h1
  obtain ⟨a2, n2, c2, rfl⟩ := okWide_slice Ybaz.underlying22 (hval 2 22 v2 rfl rfl)
  have k2 := h2
  have lt2 : ∀ x ∈ p2, x.block < W.heap.size := by obtain ⟨m, hm⟩ := k2; exact DataW.trod_lt m _ _ _ hm
  have w2 : ∃ ps : Nat → Nat, U8 W a2 n2 ps ∧ (∀ i, ps i < 256) ∧ n2 ≤ maxLen := by obtain ⟨fuel, hf⟩ := h2; exact open_u8 hf
  obtain ⟨a3, n3, c3, rfl⟩ := okWide_slice Ybaz.underlying22 (hval 3 22 v3 rfl rfl)
  have k3 := h3
  have lt3 : ∀ x ∈ p3, x.block < W.heap.size := by obtain ⟨m, hm⟩ := k3; exact DataW.trod_lt m _ _ _ hm
  have w3 : ∃ ps : Nat → Nat, U8 W a3 n3 ps ∧ (∀ i, ps i < 256) ∧ n3 ≤ maxLen := by obtain ⟨fuel, hf⟩ := h3; exact open_u8 hf
  obtain ⟨a4, n4, c4, rfl⟩ := okWide_slice Ybaz.underlying22 (hval 4 22 v4 rfl rfl)
  have k4 := h4
  have lt4 : ∀ x ∈ p4, x.block < W.heap.size := by obtain ⟨m, hm⟩ := k4; exact DataW.trod_lt m _ _ _ hm
  have w4 : ∃ ps : Nat → Nat, U8 W a4 n4 ps ∧ (∀ i, ps i < 256) ∧ n4 ≤ maxLen := by obtain ⟨fuel, hf⟩ := h4; exact open_u8 hf
  obtain ⟨a5, rfl, rfl, rfl, w5⟩ := open_int Ybaz.underlying5 (hval 5 5 v5 rfl rfl) h5
  obtain ⟨a6, n6, c6, rfl⟩ := okWide_slice Ybaz.underlying23 (hval 6 23 v6 rfl rfl)
  have k6 := h6
  have lt6 : ∀ x ∈ p6, x.block < W.heap.size := by obtain ⟨m, hm⟩ := k6; exact DataW.trod_lt m _ _ _ hm
  have w6 : ∃ (xn : Nat → Nat) (yc : Nat → Int), Bps W a6 n6 xn yc ∧ (∀ i, xn i < 256) ∧ (∀ i, -128 ≤ yc i ∧ yc i ≤ 127) ∧ n6 ≤ maxLen := by obtain ⟨fuel, hf⟩ := h6; exact open_bps hf
  clear hA0 hval0
  refine (law4_any a0 n0 c0 a1 a2 n2 c2 a3 n3 c3 a4 n4 c4 a5 a6 n6 c6 W w0 w1 w2 w3 w4 w5 w6).mono fun e W' ⟨he, bel⟩ => ?_
  subst he
  exact ⟨_, rfl, _, _, _, [], _, [], hW', trodAll_mk1 (shut_bool Ybaz.underlying4 _), (trodAll_cons_mk (Below.trod laidOutP (by kernel_rfl) (of_decide_eq_true (by kernel_rfl)) k0 bel lt0) (trodAll_cons_mk (shut_int Ybaz.underlying5 w1) (trodAll_cons_mk (Below.trod laidOutP (by kernel_rfl) (of_decide_eq_true (by kernel_rfl)) k2 bel lt2) (trodAll_cons_mk (Below.trod laidOutP (by kernel_rfl) (of_decide_eq_true (by kernel_rfl)) k3 bel lt3) (trodAll_cons_mk (Below.trod laidOutP (by kernel_rfl) (of_decide_eq_true (by kernel_rfl)) k4 bel lt4) (trodAll_cons_mk (shut_int Ybaz.underlying5 w5) (trodAll_cons_mk (Below.trod laidOutP (by kernel_rfl) (of_decide_eq_true (by kernel_rfl)) k6 bel lt6) trodAll_mk0))))))), rfl, bel.frame _, fun h => by cases h⟩

theorem lawS3498BAsksNext_told : Rows.LawS3498BAsksNextToldSaid :=
  Claim7.holds_of_told_any 4 Ybaz.f4 "fmt.Sprintf" [] [] _ _ _ (by kernel_rfl) rfl rfl rfl laidOutZ (by kernel_rfl) rfl ⟨rfl, rfl, rfl, rfl, rfl, rfl, rfl⟩ rfl rfl (by kernel_rfl) (by kernel_rfl) Ybaz.func4 (by kernel_rfl)
    (of_decide_eq_true (by kernel_rfl)) (of_decide_eq_true (by kernel_rfl)) stopsZ.symm rfl stopKnobsZ.symm (by kernel_rfl)
    (by kernel_rfl) (by kernel_rfl) (by kernel_rfl) (by kernel_rfl) (by kernel_rfl) (by kernel_rfl) (by kernel_rfl) (by kernel_rfl) (by kernel_rfl) rfl (by kernel_rfl) rfl rfl
    rfl rfl
    rfl (by kernel_rfl) (by kernel_rfl) (by kernel_rfl) (by decide) (by kernel_rfl)
    (OpenClaim.moreEntering_of (by kernel_rfl) (by kernel_rfl) (by kernel_rfl) (by kernel_rfl) (by kernel_rfl) (by kernel_rfl) (by kernel_rfl) (by kernel_rfl) (by kernel_rfl) (by kernel_rfl))
    ⟨_, WideRow.started_initial, quietZ _⟩
    (fun os started _ H enc _ => t4_lifted os started H enc)

end Go.Proofs.YbulkbtkoGreatFmt

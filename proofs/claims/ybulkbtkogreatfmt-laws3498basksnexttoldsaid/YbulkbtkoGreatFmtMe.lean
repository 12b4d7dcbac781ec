import Derived.Test.YbulkbtkoGreatFmtBase
namespace Go.Proofs.YbulkbtkoGreatFmt
open Go.RowKit
set_option linter.unusedVariables false
set_option linter.unusedSimpArgs false

section
variable (w : World) (N sdc mm mmc pn prc mn mgc bn bpc : Nat) (slf snr : Int) (sda mma pra mga bpa : Option Addr)

set_option maxRecDepth 100000 in
theorem cad0 (h0 : N = 0) : Calls Ybaz.prog 4 #[.slice sda N sdc, .int .u8 slf, .slice mma mm mmc, .slice pra pn prc, .slice mga mn mgc, .int .u8 snr, .slice bpa bn bpc] w fun e w' => e = .returned (.bool true) ∧ Below w.heap.size w w' := by
  subst h0
  go_enter Ybaz.func4, Ybaz.ntmps4
  go_wp2_with fail
  first | (go_ret; exact ⟨rfl, Below.refl _ _⟩) | exact ⟨rfl, Below.refl _ _⟩
set_option maxRecDepth 100000 in
theorem cad1 (h0 : ¬ N = 0) (h1 : 300 < N) : Calls Ybaz.prog 4 #[.slice sda N sdc, .int .u8 slf, .slice mma mm mmc, .slice pra pn prc, .slice mga mn mgc, .int .u8 snr, .slice bpa bn bpc] w fun e w' => e = .returned (.bool true) ∧ Below w.heap.size w w' := by
  have u0 : ((N : Int) == 0) = false := by simp; omega
  have u1 : decide ((300 : Int) < (N : Int)) = true := by simp; omega
  have t1 : (300 : Int) < (N : Int) := by omega
  go_enter Ybaz.func4, Ybaz.ntmps4
  go_wp2_with fail
  first | (go_ret; exact ⟨rfl, Below.refl _ _⟩) | exact ⟨rfl, Below.refl _ _⟩
set_option maxRecDepth 100000 in
theorem cad2 (h0 : ¬ N = 0) (h1 : N ≤ 300) (h2 : 300 < mm) : Calls Ybaz.prog 4 #[.slice sda N sdc, .int .u8 slf, .slice mma mm mmc, .slice pra pn prc, .slice mga mn mgc, .int .u8 snr, .slice bpa bn bpc] w fun e w' => e = .returned (.bool true) ∧ Below w.heap.size w w' := by
  have u0 : ((N : Int) == 0) = false := by simp; omega
  have u1 : decide ((300 : Int) < (N : Int)) = false := by simp; omega
  have t1 : ¬ (300 : Int) < (N : Int) := by omega
  have u2 : decide ((300 : Int) < (mm : Int)) = true := by simp; omega
  have t2 : (300 : Int) < (mm : Int) := by omega
  go_enter Ybaz.func4, Ybaz.ntmps4
  go_wp2_with fail
  first | (go_ret; exact ⟨rfl, Below.refl _ _⟩) | exact ⟨rfl, Below.refl _ _⟩
set_option maxRecDepth 100000 in
theorem cad3 (h0 : ¬ N = 0) (h1 : N ≤ 300) (h2 : mm ≤ 300) (h3 : 300 < pn) : Calls Ybaz.prog 4 #[.slice sda N sdc, .int .u8 slf, .slice mma mm mmc, .slice pra pn prc, .slice mga mn mgc, .int .u8 snr, .slice bpa bn bpc] w fun e w' => e = .returned (.bool true) ∧ Below w.heap.size w w' := by
  have u0 : ((N : Int) == 0) = false := by simp; omega
  have u1 : decide ((300 : Int) < (N : Int)) = false := by simp; omega
  have t1 : ¬ (300 : Int) < (N : Int) := by omega
  have u2 : decide ((300 : Int) < (mm : Int)) = false := by simp; omega
  have t2 : ¬ (300 : Int) < (mm : Int) := by omega
  have u3 : decide ((300 : Int) < (pn : Int)) = true := by simp; omega
  have t3 : (300 : Int) < (pn : Int) := by omega
  go_enter Ybaz.func4, Ybaz.ntmps4
  go_wp2_with fail
  first | (go_ret; exact ⟨rfl, Below.refl _ _⟩) | exact ⟨rfl, Below.refl _ _⟩
set_option maxRecDepth 100000 in
theorem cad4 (h0 : ¬ N = 0) (h1 : N ≤ 300) (h2 : mm ≤ 300) (h3 : pn ≤ 300) (h4 : 300 < mn) : Calls Ybaz.prog 4 #[.slice sda N sdc, .int .u8 slf, .slice mma mm mmc, .slice pra pn prc, .slice mga mn mgc, .int .u8 snr, .slice bpa bn bpc] w fun e w' => e = .returned (.bool true) ∧ Below w.heap.size w w' := by
  have u0 : ((N : Int) == 0) = false := by simp; omega
  have u1 : decide ((300 : Int) < (N : Int)) = false := by simp; omega
  have t1 : ¬ (300 : Int) < (N : Int) := by omega
  have u2 : decide ((300 : Int) < (mm : Int)) = false := by simp; omega
  have t2 : ¬ (300 : Int) < (mm : Int) := by omega
  have u3 : decide ((300 : Int) < (pn : Int)) = false := by simp; omega
  have t3 : ¬ (300 : Int) < (pn : Int) := by omega
  have u4 : decide ((300 : Int) < (mn : Int)) = true := by simp; omega
  have t4 : (300 : Int) < (mn : Int) := by omega
  go_enter Ybaz.func4, Ybaz.ntmps4
  go_wp2_with fail
  first | (go_ret; exact ⟨rfl, Below.refl _ _⟩) | exact ⟨rfl, Below.refl _ _⟩
set_option maxRecDepth 100000 in
theorem cad5 (h0 : ¬ N = 0) (h1 : N ≤ 300) (h2 : mm ≤ 300) (h3 : pn ≤ 300) (h4 : mn ≤ 300) (h5 : 300 < bn) : Calls Ybaz.prog 4 #[.slice sda N sdc, .int .u8 slf, .slice mma mm mmc, .slice pra pn prc, .slice mga mn mgc, .int .u8 snr, .slice bpa bn bpc] w fun e w' => e = .returned (.bool true) ∧ Below w.heap.size w w' := by
  have u0 : ((N : Int) == 0) = false := by simp; omega
  have u1 : decide ((300 : Int) < (N : Int)) = false := by simp; omega
  have t1 : ¬ (300 : Int) < (N : Int) := by omega
  have u2 : decide ((300 : Int) < (mm : Int)) = false := by simp; omega
  have t2 : ¬ (300 : Int) < (mm : Int) := by omega
  have u3 : decide ((300 : Int) < (pn : Int)) = false := by simp; omega
  have t3 : ¬ (300 : Int) < (pn : Int) := by omega
  have u4 : decide ((300 : Int) < (mn : Int)) = false := by simp; omega
  have t4 : ¬ (300 : Int) < (mn : Int) := by omega
  have u5 : decide ((300 : Int) < (bn : Int)) = true := by simp; omega
  have t5 : (300 : Int) < (bn : Int) := by omega
  go_enter Ybaz.func4, Ybaz.ntmps4
  go_wp2_with fail
  first | (go_ret; exact ⟨rfl, Below.refl _ _⟩) | exact ⟨rfl, Below.refl _ _⟩
end

end Go.Proofs.YbulkbtkoGreatFmt

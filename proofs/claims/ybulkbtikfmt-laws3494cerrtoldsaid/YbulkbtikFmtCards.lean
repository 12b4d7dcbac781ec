/-
  DERIVED. GIVEN WITH THE SEED: THE CARDS: each row of YbulkbtikFmtRows.lean that lists a variable, with what it lists TIED to the program's text (the seventh form; the later family's looks); each row that meets fmt, with fmt's text TOLD by the authors' own Lean function (tested against real Go, not proved from fmt's source: count such statements apart). THE CARD IS WHAT COUNTS. Prove the row's statement (the work); the ties are given (YbulkbtikFmtTie.lean); close each card by the builder's one call (the guide's Derived/Test/ToyasCard.lean, 'card_holds'). Laid BY PROGRAM, IN A SANDBOX (cutbox-door.mjs). By AI agents, Wed Nov 11 2026. No macro, syntax, notation, axiom, sorry.
-/
import Derived.Test.YbulkbtikFmtRows
import GoSem.ClaimSeven
namespace Go.Proofs.YbulkbtikFmt
namespace Rows

/-- THE TOLD CARD OF 'kernel.LawS3494CErr'. -/
def lawS3494CErrCard : Claim7 := { stood := { row := lawS3494CErrRow, standIns := [], harness := (true, "6dbfb703f763b1b584493d19a52d4369bffe498a07518a07d33eac4faba2df2b"), looks := true }, told := true, goes := false }
def LawS3494CErrToldSaid : Prop := Claim7.holds Ybaf.pinned (.plain (OpenSpec.ofChange lawS3494CErrSpec)) lawS3494CErrCard
/-- ITS FALSE NEIGHBOUR. Refute it at one input. -/
def LawS3494CErrToldWrongFalsely : Prop := Claim7.holds Ybaf.pinned (.plain (OpenSpec.ofChange lawS3494CErrWrong)) lawS3494CErrCard
end Rows
end Go.Proofs.YbulkbtikFmt

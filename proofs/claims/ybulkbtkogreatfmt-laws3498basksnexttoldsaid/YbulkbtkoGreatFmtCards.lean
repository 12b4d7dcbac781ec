/-
  DERIVED. GIVEN WITH THE SEED: THE CARDS: each row of YbulkbtkoGreatFmtRows.lean that lists a variable, with what it lists TIED to the program's text (the seventh form; the later family's looks); each row that meets fmt, with fmt's text TOLD by the authors' own Lean function (tested against real Go, not proved from fmt's source: count such statements apart). THE CARD IS WHAT COUNTS. Prove the row's statement (the work); the ties are given (YbulkbtkoGreatFmtTie.lean); close each card by the builder's one call (the guide's Derived/Test/ToyasCard.lean, 'card_holds'). Laid BY PROGRAM, IN A SANDBOX (cutbox-door.mjs). By AI agents, Wed Nov 11 2026. No macro, syntax, notation, axiom, sorry.
-/
import Derived.Test.YbulkbtkoGreatFmtRows
import GoSem.ClaimSeven
namespace Go.Proofs.YbulkbtkoGreatFmt
namespace Rows

/-- THE TOLD CARD OF 'nearcopy.LawS3498BTableHeard'. -/
def lawS3498BTableHeardCard : Claim7 := { stood := { row := lawS3498BTableHeardRow, standIns := [], harness := (true, "f090c1531221626a862dc4df996c871536cd53397e7bed460960bda5bad22772"), looks := false }, told := true, goes := false }
def LawS3498BTableHeardToldSaid : Prop := Claim7.holds Ybaz.pinned (.plain (OpenSpec.ofChange lawS3498BTableHeardSpec)) lawS3498BTableHeardCard
/-- ITS FALSE NEIGHBOUR. Refute it at one input. -/
def LawS3498BTableHeardToldWrongFalsely : Prop := Claim7.holds Ybaz.pinned (.plain (OpenSpec.ofChange lawS3498BTableHeardWrong)) lawS3498BTableHeardCard

/-- THE TOLD CARD OF 'nearcopy.LawS3498BAsksNext'. -/
def lawS3498BAsksNextCard : Claim7 := { stood := { row := lawS3498BAsksNextRow, standIns := [], harness := (true, "f090c1531221626a862dc4df996c871536cd53397e7bed460960bda5bad22772"), looks := false }, told := true, goes := false }
def LawS3498BAsksNextToldSaid : Prop := Claim7.holds Ybaz.pinned (.plain (OpenSpec.ofChange lawS3498BAsksNextSpec)) lawS3498BAsksNextCard
/-- ITS FALSE NEIGHBOUR. Refute it at one input. -/
def LawS3498BAsksNextToldWrongFalsely : Prop := Claim7.holds Ybaz.pinned (.plain (OpenSpec.ofChange lawS3498BAsksNextWrong)) lawS3498BAsksNextCard
end Rows
end Go.Proofs.YbulkbtkoGreatFmt

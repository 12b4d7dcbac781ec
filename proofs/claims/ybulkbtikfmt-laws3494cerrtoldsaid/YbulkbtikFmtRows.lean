/-
  No cell of these rows narrows 'for every input' (looked for: loops, veiled, ifaces, maps, wideKeys, modest, calm, conditions, laid).
  DERIVED. THE GIVEN ROWS OF THIS SEAT. 1 by the template 'for every input the law returns true; each argument reads behind the call as it read before'; 0 by the template 'total and deterministic' (their statements: YbulkbtikFmtTotals.lean).
  GIVEN WITH THE SEED: the statements are not yours to turn. If you find one false, say at which input.
  Laid BY PROGRAM, IN A SANDBOX (cutbox-rows.mjs): the forced cells as the released guide's own fill.sh prints them over the translation 71bc2b1def54fee2… (all of the seat's roots in one cut). By AI agents, Wed Nov 11 2026. No macro, syntax, notation, axiom, sorry.
-/
import Derived.Test.YbulkbtikFmtChecked
import GoSem.Claim
import GoSem.ClaimJoined
import GoSem.ClaimMapViews
import Derived.JoinedTies
import Derived.KernelRfl
namespace Go.Proofs.YbulkbtikFmt
/- THE CELL 'sum', in the pinned program and in every row, IS THE sha256 OF THE DUMP (.gsa) THAT YbulkbtikFmtProg.lean LOADS. Nothing in Lean hashes anything: it is a label: what it is worth is what the hold of that sum in a sandbox is worth. -/
noncomputable def Ybaf.pinned : Pinned := { name := "ybulkbtikfmt", sum := "71bc2b1def54fee2e375ac0dc35e2b64b628d67a494ef5e5bb90152a37826d81", checked := Ybaf.checked }
namespace Rows
def none {H : Type} : Left H := { results := [], args := [] }

/-- 'kernel.LawS3494CErr': WHATEVER THE INPUT: true; the input reads as it did. -/
def lawS3494CErrSpec : ChangeSpec := { name := "lawS3494CErr", fn := fun _ => fun
  | [d1, d2, d3] => { results := [.lit (.bool true)], args := [d1, d2, d3] }
  | _ => none }
def lawS3494CErrRow : OpenClaim := { program := "ybulkbtikfmt", sum := "71bc2b1def54fee2e375ac0dc35e2b64b628d67a494ef5e5bb90152a37826d81", func := "example.com/antecede/antecede/kernel.LawS3494CErr", spec := "lawS3494CErr", stops := ["fmt.errorf"], inPlace := ["fmt.errorf", "internal/reflectlite.TypeOf"], unfollowed := true, recurses := true, apart := false }
/-- NO THEOREM (fmt's text is open here; it may be false): for the released tool's asking of the row's closed facts alone. THE STATEMENT IS 'LawS3494CErrToldSaid' (YbulkbtikFmtCards.lean). -/
def LawS3494CErrFormAsk : Prop := lawS3494CErrRow.holds Ybaf.pinned (OpenSpec.ofChange lawS3494CErrSpec)

/-- ITS FALSE NEIGHBOUR: 'it returns false'. Refute it at one input. -/
def lawS3494CErrWrong : ChangeSpec := { name := "lawS3494CErr", fn := fun _ => fun
  | [d1, d2, d3] => { results := [.lit (.bool false)], args := [d1, d2, d3] }
  | _ => none }
def LawS3494CErrWrongFormAsk : Prop := lawS3494CErrRow.holds Ybaf.pinned (OpenSpec.ofChange lawS3494CErrWrong)

end Rows
end Go.Proofs.YbulkbtikFmt

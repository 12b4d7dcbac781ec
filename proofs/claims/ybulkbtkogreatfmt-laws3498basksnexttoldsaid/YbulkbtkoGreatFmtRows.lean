/-
  No cell of these rows narrows 'for every input' (looked for: loops, veiled, ifaces, maps, wideKeys, modest, calm, conditions, laid).
  DERIVED. THE GIVEN ROWS OF THIS SEAT. 2 by the template 'for every input the law returns true; each argument reads behind the call as it read before'; 0 by the template 'total and deterministic' (their statements: YbulkbtkoGreatFmtTotals.lean).
  GIVEN WITH THE SEED: the statements are not yours to turn. If you find one false, say at which input.
  Laid BY PROGRAM, IN A SANDBOX (cutbox-rows.mjs): the forced cells as the released guide's own fill.sh prints them over the translation 4e6ca8ea3f5bf1cb… (all of the seat's roots in one cut). By AI agents, Wed Nov 11 2026. No macro, syntax, notation, axiom, sorry.
-/
import Derived.Test.YbulkbtkoGreatFmtChecked
import GoSem.Claim
import GoSem.ClaimJoined
import GoSem.ClaimMapViews
import Derived.JoinedTies
import Derived.KernelRfl
namespace Go.Proofs.YbulkbtkoGreatFmt
/- THE CELL 'sum', in the pinned program and in every row, IS THE sha256 OF THE DUMP (.gsa) THAT YbulkbtkoGreatFmtProg.lean LOADS. Nothing in Lean hashes anything: it is a label: what it is worth is what the hold of that sum in a sandbox is worth. -/
noncomputable def Ybaz.pinned : Pinned := { name := "ybulkbtkogreatfmt", sum := "4e6ca8ea3f5bf1cbc21c78a52d0b5274b95396028ecd3c963c880ddbebfc3c5c", checked := Ybaz.checked }
namespace Rows
def none {H : Type} : Left H := { results := [], args := [] }

/-- 'nearcopy.LawS3498BTableHeard': WHATEVER THE INPUT: true; the input reads as it did. -/
def lawS3498BTableHeardSpec : ChangeSpec := { name := "lawS3498BTableHeard", fn := fun _ => fun
  | [d1, d2, d3, d4, d5, d6, d7] => { results := [.lit (.bool true)], args := [d1, d2, d3, d4, d5, d6, d7] }
  | _ => none }
def lawS3498BTableHeardRow : OpenClaim := { program := "ybulkbtkogreatfmt", sum := "4e6ca8ea3f5bf1cbc21c78a52d0b5274b95396028ecd3c963c880ddbebfc3c5c", func := "example.com/nearcopy/nearcopy.LawS3498BTableHeard", spec := "lawS3498BTableHeard", stops := ["fmt.Sprintf"], inPlace := ["fmt.Sprintf", "slices.overlaps[int]"], unfollowed := true, recurses := true, plainKeys := false, apart := false }
/-- NO THEOREM (fmt's text is open here; it may be false): for the released tool's asking of the row's closed facts alone. THE STATEMENT IS 'LawS3498BTableHeardToldSaid' (YbulkbtkoGreatFmtCards.lean). -/
def LawS3498BTableHeardFormAsk : Prop := lawS3498BTableHeardRow.holds Ybaz.pinned (OpenSpec.ofChange lawS3498BTableHeardSpec)

/-- ITS FALSE NEIGHBOUR: 'it returns false'. Refute it at one input. -/
def lawS3498BTableHeardWrong : ChangeSpec := { name := "lawS3498BTableHeard", fn := fun _ => fun
  | [d1, d2, d3, d4, d5, d6, d7] => { results := [.lit (.bool false)], args := [d1, d2, d3, d4, d5, d6, d7] }
  | _ => none }
def LawS3498BTableHeardWrongFormAsk : Prop := lawS3498BTableHeardRow.holds Ybaz.pinned (OpenSpec.ofChange lawS3498BTableHeardWrong)

/-- 'nearcopy.LawS3498BAsksNext': WHATEVER THE INPUT: true; the input reads as it did. -/
def lawS3498BAsksNextSpec : ChangeSpec := { name := "lawS3498BAsksNext", fn := fun _ => fun
  | [d1, d2, d3, d4, d5, d6, d7] => { results := [.lit (.bool true)], args := [d1, d2, d3, d4, d5, d6, d7] }
  | _ => none }
def lawS3498BAsksNextRow : OpenClaim := { program := "ybulkbtkogreatfmt", sum := "4e6ca8ea3f5bf1cbc21c78a52d0b5274b95396028ecd3c963c880ddbebfc3c5c", func := "example.com/nearcopy/nearcopy.LawS3498BAsksNext", spec := "lawS3498BAsksNext", stops := ["fmt.Sprintf"], inPlace := ["fmt.Sprintf", "slices.overlaps[int]"], unfollowed := true, recurses := true, plainKeys := false, apart := false }
/-- NO THEOREM (fmt's text is open here; it may be false): for the released tool's asking of the row's closed facts alone. THE STATEMENT IS 'LawS3498BAsksNextToldSaid' (YbulkbtkoGreatFmtCards.lean). -/
def LawS3498BAsksNextFormAsk : Prop := lawS3498BAsksNextRow.holds Ybaz.pinned (OpenSpec.ofChange lawS3498BAsksNextSpec)

/-- ITS FALSE NEIGHBOUR: 'it returns false'. Refute it at one input. -/
def lawS3498BAsksNextWrong : ChangeSpec := { name := "lawS3498BAsksNext", fn := fun _ => fun
  | [d1, d2, d3, d4, d5, d6, d7] => { results := [.lit (.bool false)], args := [d1, d2, d3, d4, d5, d6, d7] }
  | _ => none }
def LawS3498BAsksNextWrongFormAsk : Prop := lawS3498BAsksNextRow.holds Ybaz.pinned (OpenSpec.ofChange lawS3498BAsksNextWrong)

end Rows
end Go.Proofs.YbulkbtkoGreatFmt

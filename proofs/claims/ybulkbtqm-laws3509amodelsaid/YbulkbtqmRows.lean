/-
  No cell of these rows narrows 'for every input' (looked for: loops, veiled, ifaces, maps, wideKeys, modest, calm, conditions, laid).
  DERIVED. THE GIVEN ROWS OF THIS SEAT. 1 by the template 'for every input the law returns true; each argument reads behind the call as it read before'; 0 by the template 'total and deterministic' (their statements: YbulkbtqmTotals.lean).
  GIVEN WITH THE SEED: the statements are not yours to turn. If you find one false, say at which input.
  Laid BY PROGRAM, IN A SANDBOX (cutbox-rows.mjs): the forced cells as the released guide's own fill.sh prints them over the translation e4f9022fb7f4595b… (all of the seat's roots in one cut). By AI agents, Wed Nov 11 2026. No macro, syntax, notation, axiom, sorry.
-/
import Derived.Test.YbulkbtqmChecked
import GoSem.Claim
import GoSem.ClaimJoined
import GoSem.ClaimMapViews
import Derived.JoinedTies
import Derived.KernelRfl
namespace Go.Proofs.Ybulkbtqm
/- THE CELL 'sum', in the pinned program and in every row, IS THE sha256 OF THE DUMP (.gsa) THAT YbulkbtqmProg.lean LOADS. Nothing in Lean hashes anything: it is a label: what it is worth is what the hold of that sum in a sandbox is worth. -/
noncomputable def Yba.pinned : Pinned := { name := "ybulkbtqm", sum := "e4f9022fb7f4595b02fbe824c16e01ef1575a2936de9ee02487ac9614c5c4e18", checked := Yba.checked }
namespace Rows
def none {H : Type} : Left H := { results := [], args := [] }

/-- 'store.LawS3509AModel': WHATEVER THE INPUT: true; the input reads as it did. -/
def lawS3509AModelSpec : ChangeSpec := { name := "lawS3509AModel", fn := fun _ => fun
  | [d1, d2, d3, d4, d5, d6] => { results := [.lit (.bool true)], args := [d1, d2, d3, d4, d5, d6] }
  | _ => none }
def lawS3509AModelRow : OpenClaim := { program := "ybulkbtqm", sum := "e4f9022fb7f4595b02fbe824c16e01ef1575a2936de9ee02487ac9614c5c4e18", func := "example.com/ringfinger/ringfinger/store.LawS3509AModel", spec := "lawS3509AModel", inPlace := ["internal/bytealg.Compare"], recurses := true, apart := false }
def LawS3509AModelSaid : Prop := lawS3509AModelRow.holds Yba.pinned (OpenSpec.ofChange lawS3509AModelSpec)

/-- ITS FALSE NEIGHBOUR: 'it returns false'. Refute it at one input. -/
def lawS3509AModelWrong : ChangeSpec := { name := "lawS3509AModel", fn := fun _ => fun
  | [d1, d2, d3, d4, d5, d6] => { results := [.lit (.bool false)], args := [d1, d2, d3, d4, d5, d6] }
  | _ => none }
def LawS3509AModelWrongFalsely : Prop := lawS3509AModelRow.holds Yba.pinned (OpenSpec.ofChange lawS3509AModelWrong)

end Rows
end Go.Proofs.Ybulkbtqm

/-
  No cell of these rows narrows 'for every input' (looked for: loops, veiled, ifaces, maps, wideKeys, modest, calm, conditions, laid).
  DERIVED. THE GIVEN ROWS OF THIS SEAT. 4 by the template 'for every input the law returns true; each argument reads behind the call as it read before'; 0 by the template 'total and deterministic' (their statements: YbulkbtkoTotals.lean).
  GIVEN WITH THE SEED: the statements are not yours to turn. If you find one false, say at which input.
  Laid BY PROGRAM, IN A SANDBOX (cutbox-rows.mjs): the forced cells as the released guide's own fill.sh prints them over the translation 7bb44c81e0d80a8d… (all of the seat's roots in one cut). By AI agents, Wed Nov 11 2026. No macro, syntax, notation, axiom, sorry.
-/
import Derived.Test.YbulkbtkoChecked
import GoSem.Claim
import GoSem.ClaimJoined
import GoSem.ClaimMapViews
import Derived.JoinedTies
import Derived.KernelRfl
namespace Go.Proofs.Ybulkbtko
/- THE CELL 'sum', in the pinned program and in every row, IS THE sha256 OF THE DUMP (.gsa) THAT YbulkbtkoProg.lean LOADS. Nothing in Lean hashes anything: it is a label: what it is worth is what the hold of that sum in a sandbox is worth. -/
noncomputable def Yba.pinned : Pinned := { name := "ybulkbtko", sum := "7bb44c81e0d80a8d9e18bfac8cede80ba80e6324425ceed742175b4b1f8fec98", checked := Yba.checked }
namespace Rows
def none {H : Type} : Left H := { results := [], args := [] }

/-- 'nearcopy.LawS3498AModel': WHATEVER THE INPUT: true; the input reads as it did. -/
def lawS3498AModelSpec : ChangeSpec := { name := "lawS3498AModel", fn := fun _ => fun
  | [d1, d2, d3, d4, d5] => { results := [.lit (.bool true)], args := [d1, d2, d3, d4, d5] }
  | _ => none }
def lawS3498AModelRow : OpenClaim := { program := "ybulkbtko", sum := "7bb44c81e0d80a8d9e18bfac8cede80ba80e6324425ceed742175b4b1f8fec98", func := "example.com/nearcopy/nearcopy.LawS3498AModel", spec := "lawS3498AModel", plainKeys := false, apart := false }
def LawS3498AModelSaid : Prop := lawS3498AModelRow.holds Yba.pinned (OpenSpec.ofChange lawS3498AModelSpec)

/-- ITS FALSE NEIGHBOUR: 'it returns false'. Refute it at one input. -/
def lawS3498AModelWrong : ChangeSpec := { name := "lawS3498AModel", fn := fun _ => fun
  | [d1, d2, d3, d4, d5] => { results := [.lit (.bool false)], args := [d1, d2, d3, d4, d5] }
  | _ => none }
def LawS3498AModelWrongFalsely : Prop := lawS3498AModelRow.holds Yba.pinned (OpenSpec.ofChange lawS3498AModelWrong)

/-- 'nearcopy.LawS3498ATakes': WHATEVER THE INPUT: true; the input reads as it did. -/
def lawS3498ATakesSpec : ChangeSpec := { name := "lawS3498ATakes", fn := fun _ => fun
  | [d1, d2, d3, d4, d5, d6, d7] => { results := [.lit (.bool true)], args := [d1, d2, d3, d4, d5, d6, d7] }
  | _ => none }
def lawS3498ATakesRow : OpenClaim := { program := "ybulkbtko", sum := "7bb44c81e0d80a8d9e18bfac8cede80ba80e6324425ceed742175b4b1f8fec98", func := "example.com/nearcopy/nearcopy.LawS3498ATakes", spec := "lawS3498ATakes", plainKeys := false, apart := false }
def LawS3498ATakesSaid : Prop := lawS3498ATakesRow.holds Yba.pinned (OpenSpec.ofChange lawS3498ATakesSpec)

/-- ITS FALSE NEIGHBOUR: 'it returns false'. Refute it at one input. -/
def lawS3498ATakesWrong : ChangeSpec := { name := "lawS3498ATakes", fn := fun _ => fun
  | [d1, d2, d3, d4, d5, d6, d7] => { results := [.lit (.bool false)], args := [d1, d2, d3, d4, d5, d6, d7] }
  | _ => none }
def LawS3498ATakesWrongFalsely : Prop := lawS3498ATakesRow.holds Yba.pinned (OpenSpec.ofChange lawS3498ATakesWrong)

/-- 'nearcopy.LawS3498CTells': WHATEVER THE INPUT: true; the input reads as it did. -/
def lawS3498CTellsSpec : ChangeSpec := { name := "lawS3498CTells", fn := fun _ => fun
  | [d1, d2, d3, d4, d5, d6] => { results := [.lit (.bool true)], args := [d1, d2, d3, d4, d5, d6] }
  | _ => none }
def lawS3498CTellsRow : OpenClaim := { program := "ybulkbtko", sum := "7bb44c81e0d80a8d9e18bfac8cede80ba80e6324425ceed742175b4b1f8fec98", func := "example.com/nearcopy/nearcopy.LawS3498CTells", spec := "lawS3498CTells", plainKeys := false, apart := false }
def LawS3498CTellsSaid : Prop := lawS3498CTellsRow.holds Yba.pinned (OpenSpec.ofChange lawS3498CTellsSpec)

/-- ITS FALSE NEIGHBOUR: 'it returns false'. Refute it at one input. -/
def lawS3498CTellsWrong : ChangeSpec := { name := "lawS3498CTells", fn := fun _ => fun
  | [d1, d2, d3, d4, d5, d6] => { results := [.lit (.bool false)], args := [d1, d2, d3, d4, d5, d6] }
  | _ => none }
def LawS3498CTellsWrongFalsely : Prop := lawS3498CTellsRow.holds Yba.pinned (OpenSpec.ofChange lawS3498CTellsWrong)

/-- 'nearcopy.LawS3498CTwice': WHATEVER THE INPUT: true; the input reads as it did. -/
def lawS3498CTwiceSpec : ChangeSpec := { name := "lawS3498CTwice", fn := fun _ => fun
  | [d1, d2, d3, d4] => { results := [.lit (.bool true)], args := [d1, d2, d3, d4] }
  | _ => none }
def lawS3498CTwiceRow : OpenClaim := { program := "ybulkbtko", sum := "7bb44c81e0d80a8d9e18bfac8cede80ba80e6324425ceed742175b4b1f8fec98", func := "example.com/nearcopy/nearcopy.LawS3498CTwice", spec := "lawS3498CTwice", plainKeys := false, apart := false }
def LawS3498CTwiceSaid : Prop := lawS3498CTwiceRow.holds Yba.pinned (OpenSpec.ofChange lawS3498CTwiceSpec)

/-- ITS FALSE NEIGHBOUR: 'it returns false'. Refute it at one input. -/
def lawS3498CTwiceWrong : ChangeSpec := { name := "lawS3498CTwice", fn := fun _ => fun
  | [d1, d2, d3, d4] => { results := [.lit (.bool false)], args := [d1, d2, d3, d4] }
  | _ => none }
def LawS3498CTwiceWrongFalsely : Prop := lawS3498CTwiceRow.holds Yba.pinned (OpenSpec.ofChange lawS3498CTwiceWrong)

end Rows
end Go.Proofs.Ybulkbtko

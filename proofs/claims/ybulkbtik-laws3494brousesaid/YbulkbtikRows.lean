/-
  No cell of these rows narrows 'for every input' (looked for: loops, veiled, ifaces, maps, wideKeys, modest, calm, conditions, laid).
  DERIVED. THE GIVEN ROWS OF THIS SEAT. 3 by the template 'for every input the law returns true; each argument reads behind the call as it read before'; 0 by the template 'total and deterministic' (their statements: YbulkbtikTotals.lean).
  GIVEN WITH THE SEED: the statements are not yours to turn. If you find one false, say at which input.
  Laid BY PROGRAM, IN A SANDBOX (cutbox-rows.mjs): the forced cells as the released guide's own fill.sh prints them over the translation 66e7416e93ff0e47… (all of the seat's roots in one cut). By AI agents, Wed Nov 11 2026. No macro, syntax, notation, axiom, sorry.
-/
import Derived.Test.YbulkbtikChecked
import GoSem.Claim
import GoSem.ClaimJoined
import GoSem.ClaimMapViews
import Derived.JoinedTies
import Derived.KernelRfl
namespace Go.Proofs.Ybulkbtik
/- THE CELL 'sum', in the pinned program and in every row, IS THE sha256 OF THE DUMP (.gsa) THAT YbulkbtikProg.lean LOADS. Nothing in Lean hashes anything: it is a label: what it is worth is what the hold of that sum in a sandbox is worth. -/
noncomputable def Yba.pinned : Pinned := { name := "ybulkbtik", sum := "66e7416e93ff0e47eaf0ed0a0a96048a9626d16a6b9978594c1cca66bc593ad2", checked := Yba.checked }
namespace Rows
def none {H : Type} : Left H := { results := [], args := [] }

/-- 'kernel.LawS3494AModel': WHATEVER THE INPUT: true; the input reads as it did. -/
def lawS3494AModelSpec : ChangeSpec := { name := "lawS3494AModel", fn := fun _ => fun
  | [d1, d2, d3] => { results := [.lit (.bool true)], args := [d1, d2, d3] }
  | _ => none }
def lawS3494AModelRow : OpenClaim := { program := "ybulkbtik", sum := "66e7416e93ff0e47eaf0ed0a0a96048a9626d16a6b9978594c1cca66bc593ad2", func := "example.com/antecede/antecede/kernel.LawS3494AModel", spec := "lawS3494AModel", unfollowed := true, recurses := true, plainKeys := false, apart := false }
def LawS3494AModelSaid : Prop := lawS3494AModelRow.holds Yba.pinned (OpenSpec.ofChange lawS3494AModelSpec)

/-- ITS FALSE NEIGHBOUR: 'it returns false'. Refute it at one input. -/
def lawS3494AModelWrong : ChangeSpec := { name := "lawS3494AModel", fn := fun _ => fun
  | [d1, d2, d3] => { results := [.lit (.bool false)], args := [d1, d2, d3] }
  | _ => none }
def LawS3494AModelWrongFalsely : Prop := lawS3494AModelRow.holds Yba.pinned (OpenSpec.ofChange lawS3494AModelWrong)

/-- 'kernel.LawS3494AContiguous': WHATEVER THE INPUT: true; the input reads as it did. -/
def lawS3494AContiguousSpec : ChangeSpec := { name := "lawS3494AContiguous", fn := fun _ => fun
  | [d1, d2] => { results := [.lit (.bool true)], args := [d1, d2] }
  | _ => none }
def lawS3494AContiguousRow : OpenClaim := { program := "ybulkbtik", sum := "66e7416e93ff0e47eaf0ed0a0a96048a9626d16a6b9978594c1cca66bc593ad2", func := "example.com/antecede/antecede/kernel.LawS3494AContiguous", spec := "lawS3494AContiguous", unfollowed := true, recurses := true, plainKeys := false, apart := false }
def LawS3494AContiguousSaid : Prop := lawS3494AContiguousRow.holds Yba.pinned (OpenSpec.ofChange lawS3494AContiguousSpec)

/-- ITS FALSE NEIGHBOUR: 'it returns false'. Refute it at one input. -/
def lawS3494AContiguousWrong : ChangeSpec := { name := "lawS3494AContiguous", fn := fun _ => fun
  | [d1, d2] => { results := [.lit (.bool false)], args := [d1, d2] }
  | _ => none }
def LawS3494AContiguousWrongFalsely : Prop := lawS3494AContiguousRow.holds Yba.pinned (OpenSpec.ofChange lawS3494AContiguousWrong)

/-- 'kernel.LawS3494BRouse': WHATEVER THE INPUT: true; the input reads as it did. -/
def lawS3494BRouseSpec : ChangeSpec := { name := "lawS3494BRouse", fn := fun _ => fun
  | [d1, d2, d3, d4, d5, d6, d7] => { results := [.lit (.bool true)], args := [d1, d2, d3, d4, d5, d6, d7] }
  | _ => none }
def lawS3494BRouseRow : OpenClaim := { program := "ybulkbtik", sum := "66e7416e93ff0e47eaf0ed0a0a96048a9626d16a6b9978594c1cca66bc593ad2", func := "example.com/antecede/antecede/kernel.LawS3494BRouse", spec := "lawS3494BRouse", inPlace := ["sync/atomic.StoreUint32", "sync/atomic.LoadInt64", "(*internal/sync.Mutex).Lock", "internal/race.Disable", "sync/atomic.CompareAndSwapInt32", "internal/race.Enable", "internal/race.Acquire", "(*internal/sync.Mutex).lockSlow", "internal/sync.runtime_canSpin", "internal/sync.runtime_doSpin", "internal/sync.throw", "internal/sync.runtime_nanotime", "internal/sync.runtime_SemacquireMutex", "sync/atomic.AddInt32", "(*internal/sync.Mutex).Unlock", "internal/race.ReleaseMerge", "(*internal/sync.Mutex).unlockSlow", "internal/sync.fatal", "internal/sync.runtime_Semrelease", "sync/atomic.AddInt64", "sync/atomic.LoadUint32"], plainKeys := false, apart := false }
def LawS3494BRouseSaid : Prop := lawS3494BRouseRow.holds Yba.pinned (OpenSpec.ofChange lawS3494BRouseSpec)

/-- ITS FALSE NEIGHBOUR: 'it returns false'. Refute it at one input. -/
def lawS3494BRouseWrong : ChangeSpec := { name := "lawS3494BRouse", fn := fun _ => fun
  | [d1, d2, d3, d4, d5, d6, d7] => { results := [.lit (.bool false)], args := [d1, d2, d3, d4, d5, d6, d7] }
  | _ => none }
def LawS3494BRouseWrongFalsely : Prop := lawS3494BRouseRow.holds Yba.pinned (OpenSpec.ofChange lawS3494BRouseWrong)

end Rows
end Go.Proofs.Ybulkbtik

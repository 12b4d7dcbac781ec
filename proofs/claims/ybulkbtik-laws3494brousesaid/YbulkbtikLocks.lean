import Derived.Test.YbulkbtikRows
import Derived.Conc.MuLone
import Derived.KernelRfl
namespace Go.Proofs.Ybulkbtik
abbrev muLink : Go.Conc.Locks.MuLink := { lock := 26, unlock := 28, ilock := 34, iunlock := 36, lockSlow := 43, unlockSlow := 46, disable := 39, enable := 41, acquire := 42, relMerge := 44, cas32 := 40, add32 := 45, tMutex := 35, tIMutex := 33, tPMutex := 144, tPIMutex := 166, tPI32 := 168, tUP := 170, tNoCopy := 30, tU32 := 31 }
theorem muLib : Go.Conc.Locks.MuLib Yba.prog muLink :=
  ⟨Yba.func26, Yba.func28, Yba.func34, Yba.func36, Yba.func39, Yba.func41, Yba.func42, Yba.func44, Yba.func40, Yba.func45, Yba.underlying33, Yba.runUnderlying33, Yba.sizeOf33, Yba.isAgg33, Yba.zeroValue33, Yba.underlying35, Yba.runUnderlying35, Yba.sizeOf35, Yba.isAgg35, Yba.zeroValue35, Yba.underlying144, Yba.runUnderlying144, Yba.sizeOf144, Yba.isAgg144, Yba.zeroValue144, Yba.underlying166, Yba.runUnderlying166, Yba.sizeOf166, Yba.isAgg166, Yba.zeroValue166, Yba.underlying168, Yba.runUnderlying168, Yba.sizeOf168, Yba.isAgg168, Yba.zeroValue168, Yba.underlying170, Yba.runUnderlying170, Yba.sizeOf170, Yba.isAgg170, Yba.zeroValue170, Yba.underlying30, Yba.runUnderlying30, Yba.sizeOf30, Yba.isAgg30, Yba.zeroValue30, Yba.underlying21, Yba.runUnderlying21, Yba.sizeOf21, Yba.isAgg21, Yba.zeroValue21, (by kernel_rfl)⟩
end Go.Proofs.Ybulkbtik

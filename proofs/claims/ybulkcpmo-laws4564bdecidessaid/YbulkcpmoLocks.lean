/-
  The numbers under which this dump holds sync.Mutex's functions and types, and that it holds them; checked by the kernel.
-/
import Derived.Test.YbulkcpmoProg
import Derived.Conc.RwLib
import Derived.KernelRfl
namespace Go.Proofs
abbrev Yba.muLink : Go.Conc.Locks.MuLink := { lock := 38, unlock := 39, ilock := 45, iunlock := 46, lockSlow := 53, unlockSlow := 56, disable := 49, enable := 51, acquire := 52, relMerge := 54, cas32 := 50, add32 := 55, tMutex := 39, tIMutex := 37, tPMutex := 150, tPIMutex := 157, tPI32 := 122, tUP := 44, tNoCopy := 28, tU32 := 32 }
theorem Yba.muLib : Go.Conc.Locks.MuLib Yba.prog Yba.muLink :=
  ⟨Yba.func38, Yba.func39, Yba.func45, Yba.func46, Yba.func49, Yba.func51, Yba.func52, Yba.func54, Yba.func50, Yba.func55, Yba.underlying37, Yba.runUnderlying37, Yba.sizeOf37, Yba.isAgg37, Yba.zeroValue37, Yba.underlying39, Yba.runUnderlying39, Yba.sizeOf39, Yba.isAgg39, Yba.zeroValue39, Yba.underlying150, Yba.runUnderlying150, Yba.sizeOf150, Yba.isAgg150, Yba.zeroValue150, Yba.underlying157, Yba.runUnderlying157, Yba.sizeOf157, Yba.isAgg157, Yba.zeroValue157, Yba.underlying122, Yba.runUnderlying122, Yba.sizeOf122, Yba.isAgg122, Yba.zeroValue122, Yba.underlying44, Yba.runUnderlying44, Yba.sizeOf44, Yba.isAgg44, Yba.zeroValue44, Yba.underlying28, Yba.runUnderlying28, Yba.sizeOf28, Yba.isAgg28, Yba.zeroValue28, Yba.underlying21, Yba.runUnderlying21, Yba.sizeOf21, Yba.isAgg21, Yba.zeroValue21, (by kernel_rfl)⟩
end Go.Proofs

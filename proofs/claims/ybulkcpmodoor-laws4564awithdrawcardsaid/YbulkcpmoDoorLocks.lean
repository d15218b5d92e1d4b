/-
  The numbers under which this dump holds sync.Mutex's functions and types, and that it holds them; checked by the kernel.
-/
import Derived.Test.YbulkcpmoDoorProg
import Derived.Conc.RwLib
import Derived.KernelRfl
namespace Go.Proofs
abbrev Ybad.muLink : Go.Conc.Locks.MuLink := { lock := 14, unlock := 15, ilock := 23, iunlock := 24, lockSlow := 35, unlockSlow := 37, disable := 31, enable := 33, acquire := 34, relMerge := 36, cas32 := 32, add32 := 25, tMutex := 55, tIMutex := 53, tPMutex := 80, tPIMutex := 103, tPI32 := 86, tUP := 31, tNoCopy := 48, tU32 := 34 }
theorem Ybad.muLib : Go.Conc.Locks.MuLib Ybad.prog Ybad.muLink :=
  ⟨Ybad.func14, Ybad.func15, Ybad.func23, Ybad.func24, Ybad.func31, Ybad.func33, Ybad.func34, Ybad.func36, Ybad.func32, Ybad.func25, Ybad.underlying53, Ybad.runUnderlying53, Ybad.sizeOf53, Ybad.isAgg53, Ybad.zeroValue53, Ybad.underlying55, Ybad.runUnderlying55, Ybad.sizeOf55, Ybad.isAgg55, Ybad.zeroValue55, Ybad.underlying80, Ybad.runUnderlying80, Ybad.sizeOf80, Ybad.isAgg80, Ybad.zeroValue80, Ybad.underlying103, Ybad.runUnderlying103, Ybad.sizeOf103, Ybad.isAgg103, Ybad.zeroValue103, Ybad.underlying86, Ybad.runUnderlying86, Ybad.sizeOf86, Ybad.isAgg86, Ybad.zeroValue86, Ybad.underlying31, Ybad.runUnderlying31, Ybad.sizeOf31, Ybad.isAgg31, Ybad.zeroValue31, Ybad.underlying48, Ybad.runUnderlying48, Ybad.sizeOf48, Ybad.isAgg48, Ybad.zeroValue48, Ybad.underlying21, Ybad.runUnderlying21, Ybad.sizeOf21, Ybad.isAgg21, Ybad.zeroValue21, (by kernel_rfl)⟩
end Go.Proofs

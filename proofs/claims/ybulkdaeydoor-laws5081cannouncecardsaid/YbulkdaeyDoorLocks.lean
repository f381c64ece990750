/-
  The numbers under which this dump holds sync.Mutex's functions and types, and that it holds them (after the worked StatsLocks).
-/
import Derived.Test.YbulkdaeyDoorProg
import Derived.Conc.RwLib
import Derived.Conc.MuData
import Derived.KernelRfl
namespace Go.Proofs
abbrev Ybad.muLink : Go.Conc.Locks.MuLink := { lock := 15, unlock := 16, ilock := 35, iunlock := 36, lockSlow := 51, unlockSlow := 54, disable := 47, enable := 49, acquire := 50, relMerge := 52, cas32 := 48, add32 := 53, tMutex := 36, tIMutex := 34, tPMutex := 143, tPIMutex := 171, tPI32 := 173, tUP := 175, tNoCopy := 31, tU32 := 32 }
theorem Ybad.muLib : Go.Conc.Locks.MuLib Ybad.prog Ybad.muLink :=
  ⟨Ybad.func15, Ybad.func16, Ybad.func35, Ybad.func36, Ybad.func47, Ybad.func49, Ybad.func50, Ybad.func52, Ybad.func48, Ybad.func53, Ybad.underlying34, Ybad.runUnderlying34, Ybad.sizeOf34, Ybad.isAgg34, Ybad.zeroValue34, Ybad.underlying36, Ybad.runUnderlying36, Ybad.sizeOf36, Ybad.isAgg36, Ybad.zeroValue36, Ybad.underlying143, Ybad.runUnderlying143, Ybad.sizeOf143, Ybad.isAgg143, Ybad.zeroValue143, Ybad.underlying171, Ybad.runUnderlying171, Ybad.sizeOf171, Ybad.isAgg171, Ybad.zeroValue171, Ybad.underlying173, Ybad.runUnderlying173, Ybad.sizeOf173, Ybad.isAgg173, Ybad.zeroValue173, Ybad.underlying175, Ybad.runUnderlying175, Ybad.sizeOf175, Ybad.isAgg175, Ybad.zeroValue175, Ybad.underlying31, Ybad.runUnderlying31, Ybad.sizeOf31, Ybad.isAgg31, Ybad.zeroValue31, Ybad.underlying21, Ybad.runUnderlying21, Ybad.sizeOf21, Ybad.isAgg21, Ybad.zeroValue21, (by kernel_rfl)⟩
end Go.Proofs

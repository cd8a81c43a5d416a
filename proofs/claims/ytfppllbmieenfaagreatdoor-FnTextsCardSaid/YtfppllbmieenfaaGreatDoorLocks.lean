/- The numbers under which this dump holds the library's lock's functions and types, and that it holds them. -/
import Derived.Test.YtfppllbmieenfaaGreatDoorProg
import Derived.Conc.MuLib
import Derived.KernelRfl
namespace Go.Proofs
abbrev Tryz.muLink : Go.Conc.Locks.MuLink := { lock := 45, unlock := 46, ilock := 114, iunlock := 115, lockSlow := 183, unlockSlow := 186, disable := 179, enable := 181, acquire := 182, relMerge := 184, cas32 := 180, add32 := 185, tMutex := 105, tIMutex := 103, tPMutex := 169, tPIMutex := 228, tPI32 := 230, tUP := 232, tNoCopy := 100, tU32 := 101 }
theorem Tryz.muLib : Go.Conc.Locks.MuLib Tryz.prog Tryz.muLink :=
  ⟨Tryz.func45, Tryz.func46, Tryz.func114, Tryz.func115, Tryz.func179, Tryz.func181, Tryz.func182, Tryz.func184, Tryz.func180, Tryz.func185, Tryz.underlying103, Tryz.runUnderlying103, Tryz.sizeOf103, Tryz.isAgg103, Tryz.zeroValue103, Tryz.underlying105, Tryz.runUnderlying105, Tryz.sizeOf105, Tryz.isAgg105, Tryz.zeroValue105, Tryz.underlying169, Tryz.runUnderlying169, Tryz.sizeOf169, Tryz.isAgg169, Tryz.zeroValue169, Tryz.underlying228, Tryz.runUnderlying228, Tryz.sizeOf228, Tryz.isAgg228, Tryz.zeroValue228, Tryz.underlying230, Tryz.runUnderlying230, Tryz.sizeOf230, Tryz.isAgg230, Tryz.zeroValue230, Tryz.underlying232, Tryz.runUnderlying232, Tryz.sizeOf232, Tryz.isAgg232, Tryz.zeroValue232, Tryz.underlying100, Tryz.runUnderlying100, Tryz.sizeOf100, Tryz.isAgg100, Tryz.zeroValue100, Tryz.underlying21, Tryz.runUnderlying21, Tryz.sizeOf21, Tryz.isAgg21, Tryz.zeroValue21, (by kernel_rfl)⟩
end Go.Proofs

/- The numbers under which this dump holds the library's lock's functions and types, and that it holds them. -/
import Derived.Test.YtamkkdeloknjiaaGreatDoorProg
import Derived.Conc.MuLib
import Derived.KernelRfl
namespace Go.Proofs
abbrev Tryz.muLink : Go.Conc.Locks.MuLink := { lock := 62, unlock := 63, ilock := 103, iunlock := 104, lockSlow := 154, unlockSlow := 157, disable := 150, enable := 152, acquire := 153, relMerge := 155, cas32 := 151, add32 := 156, tMutex := 132, tIMutex := 130, tPMutex := 193, tPIMutex := 241, tPI32 := 243, tUP := 245, tNoCopy := 127, tU32 := 128 }
theorem Tryz.muLib : Go.Conc.Locks.MuLib Tryz.prog Tryz.muLink :=
  ⟨Tryz.func62, Tryz.func63, Tryz.func103, Tryz.func104, Tryz.func150, Tryz.func152, Tryz.func153, Tryz.func155, Tryz.func151, Tryz.func156, Tryz.underlying130, Tryz.runUnderlying130, Tryz.sizeOf130, Tryz.isAgg130, Tryz.zeroValue130, Tryz.underlying132, Tryz.runUnderlying132, Tryz.sizeOf132, Tryz.isAgg132, Tryz.zeroValue132, Tryz.underlying193, Tryz.runUnderlying193, Tryz.sizeOf193, Tryz.isAgg193, Tryz.zeroValue193, Tryz.underlying241, Tryz.runUnderlying241, Tryz.sizeOf241, Tryz.isAgg241, Tryz.zeroValue241, Tryz.underlying243, Tryz.runUnderlying243, Tryz.sizeOf243, Tryz.isAgg243, Tryz.zeroValue243, Tryz.underlying245, Tryz.runUnderlying245, Tryz.sizeOf245, Tryz.isAgg245, Tryz.zeroValue245, Tryz.underlying127, Tryz.runUnderlying127, Tryz.sizeOf127, Tryz.isAgg127, Tryz.zeroValue127, Tryz.underlying21, Tryz.runUnderlying21, Tryz.sizeOf21, Tryz.isAgg21, Tryz.zeroValue21, (by kernel_rfl)⟩
end Go.Proofs

/- The numbers under which this dump holds the library's lock's functions and types, and that it holds them. -/
import Derived.Test.YtlfmgidpdmmpkaaGreatDoorProg
import Derived.Conc.MuLib
import Derived.KernelRfl
namespace Go.Proofs
abbrev Tryz.muLink : Go.Conc.Locks.MuLink := { lock := 136, unlock := 137, ilock := 199, iunlock := 200, lockSlow := 257, unlockSlow := 260, disable := 253, enable := 255, acquire := 256, relMerge := 258, cas32 := 254, add32 := 259, tMutex := 106, tIMutex := 104, tPMutex := 250, tPIMutex := 298, tPI32 := 300, tUP := 302, tNoCopy := 101, tU32 := 102 }
theorem Tryz.muLib : Go.Conc.Locks.MuLib Tryz.prog Tryz.muLink :=
  ⟨Tryz.func136, Tryz.func137, Tryz.func199, Tryz.func200, Tryz.func253, Tryz.func255, Tryz.func256, Tryz.func258, Tryz.func254, Tryz.func259, Tryz.underlying104, Tryz.runUnderlying104, Tryz.sizeOf104, Tryz.isAgg104, Tryz.zeroValue104, Tryz.underlying106, Tryz.runUnderlying106, Tryz.sizeOf106, Tryz.isAgg106, Tryz.zeroValue106, Tryz.underlying250, Tryz.runUnderlying250, Tryz.sizeOf250, Tryz.isAgg250, Tryz.zeroValue250, Tryz.underlying298, Tryz.runUnderlying298, Tryz.sizeOf298, Tryz.isAgg298, Tryz.zeroValue298, Tryz.underlying300, Tryz.runUnderlying300, Tryz.sizeOf300, Tryz.isAgg300, Tryz.zeroValue300, Tryz.underlying302, Tryz.runUnderlying302, Tryz.sizeOf302, Tryz.isAgg302, Tryz.zeroValue302, Tryz.underlying101, Tryz.runUnderlying101, Tryz.sizeOf101, Tryz.isAgg101, Tryz.zeroValue101, Tryz.underlying21, Tryz.runUnderlying21, Tryz.sizeOf21, Tryz.isAgg21, Tryz.zeroValue21, (by kernel_rfl)⟩
end Go.Proofs

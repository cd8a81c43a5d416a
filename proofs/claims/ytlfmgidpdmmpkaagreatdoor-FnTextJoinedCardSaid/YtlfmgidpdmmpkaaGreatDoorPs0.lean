-- PRINTED by print.py (a twelfth state) out of the translation. Not trusted: Lean checks it.
import Derived.Test.YtlfmgidpdmmpkaaGreatDoorProg
import Derived.Test.YtlfmgidpdmmpkaaGreatDoorWWords
import Derived.Test.YtlfmgidpdmmpkaaGreatDoorWLast
import Derived.Test.YtlfmgidpdmmpkaaGreatDoorWTab
import Derived.Test.YtlfmgidpdmmpkaaGreatDoorWFour
import Derived.Test.YtlfmgidpdmmpkaaGreatDoorWQPut
import Derived.Test.YtlfmgidpdmmpkaaGreatDoorWApart
import Derived.Test.YtlfmgidpdmmpkaaGreatDoorWArr
import Derived.Test.YtlfmgidpdmmpkaaGreatDoorWZeros
import Derived.Test.YtlfmgidpdmmpkaaGreatDoorWFoot
import Derived.Test.YtlfmgidpdmmpkaaGreatDoorWKept
import Derived.Test.YtlfmgidpdmmpkaaGreatDoorWShare
import Derived.Test.YtlfmgidpdmmpkaaGreatDoorWN
import Derived.Test.YtlfmgidpdmmpkaaGreatDoorWFootNe
import Derived.Test.YtlfmgidpdmmpkaaGreatDoorWAt
import Derived.Test.YtlfmgidpdmmpkaaGreatDoorWEqStruct
import Derived.Test.YtlfmgidpdmmpkaaGreatDoorWRepsOne
import Derived.Test.YtlfmgidpdmmpkaaGreatDoorWInv
import Derived.Test.YtlfmgidpdmmpkaaGreatDoorWInvWords
import Derived.Test.YtlfmgidpdmmpkaaGreatDoorWGuard
import Derived.Test.YtlfmgidpdmmpkaaGreatDoorWNEv
import Derived.Test.YtlfmgidpdmmpkaaGreatDoorWMore
namespace Go.Proofs.YtlfmgidpdmmpkaaGreatDoor.Ps
open Go.RowKit Go.Proofs.YtlfmgidpdmmpkaaGreatDoorW.PrintWords Go.Proofs.YtlfmgidpdmmpkaaGreatDoorW.PrintLast Go.Proofs.YtlfmgidpdmmpkaaGreatDoorW.PrintMore
attribute [local go_sem] max2_int min2_int max_two min_two max_three min_three max_four min_four   -- for this text's walks alone
set_option linter.unusedVariables false
set_option linter.unusedSimpArgs false



def errW : Option Int → Value
  | none => .nilIface
  | some c => .iface 0 (.int .i64 c)
theorem errW_none : errW none = .nilIface := rfl
theorem errW_some (c : Int) : errW (some c) = .iface 0 (.int .i64 c) := rfl

theorem info3 : (Tryz.prog.info? 3).map (fun i => (i.zero, i.size, i.bytes)) = some (some (.int .i64 0), 1, 8) := by kernel_rfl
theorem info5 : (Tryz.prog.info? 5).map (fun i => (i.zero, i.size, i.bytes)) = some (some (.int .u8 0), 1, 1) := by kernel_rfl
theorem info33 : (Tryz.prog.info? 33).map (fun i => (i.zero, i.size, i.bytes)) = some (some (.int .i64 0), 1, 8) := by kernel_rfl
-- the values' own types

end Go.Proofs.YtlfmgidpdmmpkaaGreatDoor.Ps

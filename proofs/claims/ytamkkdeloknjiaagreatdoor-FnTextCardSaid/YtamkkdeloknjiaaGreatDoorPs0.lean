-- PRINTED by print.py (a twelfth state) out of the translation. Not trusted: Lean checks it.
import Derived.Test.YtamkkdeloknjiaaGreatDoorProg
import Derived.Test.YtamkkdeloknjiaaGreatDoorWWords
import Derived.Test.YtamkkdeloknjiaaGreatDoorWLast
import Derived.Test.YtamkkdeloknjiaaGreatDoorWTab
import Derived.Test.YtamkkdeloknjiaaGreatDoorWFour
import Derived.Test.YtamkkdeloknjiaaGreatDoorWQPut
import Derived.Test.YtamkkdeloknjiaaGreatDoorWApart
import Derived.Test.YtamkkdeloknjiaaGreatDoorWArr
import Derived.Test.YtamkkdeloknjiaaGreatDoorWZeros
import Derived.Test.YtamkkdeloknjiaaGreatDoorWFoot
import Derived.Test.YtamkkdeloknjiaaGreatDoorWKept
import Derived.Test.YtamkkdeloknjiaaGreatDoorWShare
import Derived.Test.YtamkkdeloknjiaaGreatDoorWN
import Derived.Test.YtamkkdeloknjiaaGreatDoorWFootNe
import Derived.Test.YtamkkdeloknjiaaGreatDoorWAt
import Derived.Test.YtamkkdeloknjiaaGreatDoorWEqStruct
import Derived.Test.YtamkkdeloknjiaaGreatDoorWRepsOne
import Derived.Test.YtamkkdeloknjiaaGreatDoorWInv
import Derived.Test.YtamkkdeloknjiaaGreatDoorWInvWords
import Derived.Test.YtamkkdeloknjiaaGreatDoorWGuard
import Derived.Test.YtamkkdeloknjiaaGreatDoorWNEv
import Derived.Test.YtamkkdeloknjiaaGreatDoorWMore
namespace Go.Proofs.YtamkkdeloknjiaaGreatDoor.Ps
open Go.RowKit Go.Proofs.YtamkkdeloknjiaaGreatDoorW.PrintWords Go.Proofs.YtamkkdeloknjiaaGreatDoorW.PrintLast Go.Proofs.YtamkkdeloknjiaaGreatDoorW.PrintMore
attribute [local go_sem] max2_int min2_int max_two min_two max_three min_three max_four min_four   -- for this text's walks alone
set_option linter.unusedVariables false
set_option linter.unusedSimpArgs false



def errW : Option Int → Value
  | none => .nilIface
  | some c => .iface 0 (.int .i64 c)
theorem errW_none : errW none = .nilIface := rfl
theorem errW_some (c : Int) : errW (some c) = .iface 0 (.int .i64 c) := rfl

theorem info3 : (Tryz.prog.info? 3).map (fun i => (i.zero, i.size, i.bytes)) = some (some (.int .i64 0), 1, 8) := by kernel_rfl
theorem info44 : (Tryz.prog.info? 44).map (fun i => (i.zero, i.size, i.bytes)) = some (some (.int .u64 0), 1, 8) := by kernel_rfl
-- the values' own types

end Go.Proofs.YtamkkdeloknjiaaGreatDoor.Ps

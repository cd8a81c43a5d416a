-- PRINTED by print.py (a twelfth state) out of the translation. Not trusted: Lean checks it.
import Derived.Test.YtfppllbmieenfaaGreatDoorProg
import Derived.Test.YtfppllbmieenfaaGreatDoorWWords
import Derived.Test.YtfppllbmieenfaaGreatDoorWLast
import Derived.Test.YtfppllbmieenfaaGreatDoorWTab
import Derived.Test.YtfppllbmieenfaaGreatDoorWFour
import Derived.Test.YtfppllbmieenfaaGreatDoorWQPut
import Derived.Test.YtfppllbmieenfaaGreatDoorWApart
import Derived.Test.YtfppllbmieenfaaGreatDoorWArr
import Derived.Test.YtfppllbmieenfaaGreatDoorWZeros
import Derived.Test.YtfppllbmieenfaaGreatDoorWFoot
import Derived.Test.YtfppllbmieenfaaGreatDoorWKept
import Derived.Test.YtfppllbmieenfaaGreatDoorWShare
import Derived.Test.YtfppllbmieenfaaGreatDoorWN
import Derived.Test.YtfppllbmieenfaaGreatDoorWFootNe
import Derived.Test.YtfppllbmieenfaaGreatDoorWAt
import Derived.Test.YtfppllbmieenfaaGreatDoorWEqStruct
import Derived.Test.YtfppllbmieenfaaGreatDoorWRepsOne
import Derived.Test.YtfppllbmieenfaaGreatDoorWInv
import Derived.Test.YtfppllbmieenfaaGreatDoorWInvWords
import Derived.Test.YtfppllbmieenfaaGreatDoorWGuard
import Derived.Test.YtfppllbmieenfaaGreatDoorWNEv
import Derived.Test.YtfppllbmieenfaaGreatDoorWMore
namespace Go.Proofs.YtfppllbmieenfaaGreatDoor.Ps
open Go.RowKit Go.Proofs.YtfppllbmieenfaaGreatDoorW.PrintWords Go.Proofs.YtfppllbmieenfaaGreatDoorW.PrintLast Go.Proofs.YtfppllbmieenfaaGreatDoorW.PrintMore
attribute [local go_sem] max2_int min2_int max_two min_two max_three min_three max_four min_four   -- for this text's walks alone
set_option linter.unusedVariables false
set_option linter.unusedSimpArgs false



def errW : Option Int → Value
  | none => .nilIface
  | some c => .iface 0 (.int .i64 c)
theorem errW_none : errW none = .nilIface := rfl
theorem errW_some (c : Int) : errW (some c) = .iface 0 (.int .i64 c) := rfl

theorem info3 : (Tryz.prog.info? 3).map (fun i => (i.zero, i.size, i.bytes)) = some (some (.int .i64 0), 1, 8) := by kernel_rfl
theorem info85 : (Tryz.prog.info? 85).map (fun i => (i.zero, i.size, i.bytes)) = some (some (.int .u64 0), 1, 8) := by kernel_rfl
-- the values' own types

end Go.Proofs.YtfppllbmieenfaaGreatDoor.Ps

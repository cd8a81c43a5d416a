-- PRINTED by print.py (a twelfth state) out of the translation. Not trusted: Lean checks it.
import Derived.Test.YtnanfmjbdmfmkaaGreatDoorProg
import Derived.Test.YtnanfmjbdmfmkaaGreatDoorWWords
import Derived.Test.YtnanfmjbdmfmkaaGreatDoorWLast
import Derived.Test.YtnanfmjbdmfmkaaGreatDoorWTab
import Derived.Test.YtnanfmjbdmfmkaaGreatDoorWFour
import Derived.Test.YtnanfmjbdmfmkaaGreatDoorWQPut
import Derived.Test.YtnanfmjbdmfmkaaGreatDoorWApart
import Derived.Test.YtnanfmjbdmfmkaaGreatDoorWArr
import Derived.Test.YtnanfmjbdmfmkaaGreatDoorWZeros
import Derived.Test.YtnanfmjbdmfmkaaGreatDoorWFoot
import Derived.Test.YtnanfmjbdmfmkaaGreatDoorWKept
import Derived.Test.YtnanfmjbdmfmkaaGreatDoorWShare
import Derived.Test.YtnanfmjbdmfmkaaGreatDoorWN
import Derived.Test.YtnanfmjbdmfmkaaGreatDoorWFootNe
import Derived.Test.YtnanfmjbdmfmkaaGreatDoorWAt
import Derived.Test.YtnanfmjbdmfmkaaGreatDoorWEqStruct
import Derived.Test.YtnanfmjbdmfmkaaGreatDoorWRepsOne
import Derived.Test.YtnanfmjbdmfmkaaGreatDoorWInv
import Derived.Test.YtnanfmjbdmfmkaaGreatDoorWInvWords
import Derived.Test.YtnanfmjbdmfmkaaGreatDoorWGuard
import Derived.Test.YtnanfmjbdmfmkaaGreatDoorWNEv
import Derived.Test.YtnanfmjbdmfmkaaGreatDoorWMore
namespace Go.Proofs.YtnanfmjbdmfmkaaGreatDoor.Ps
open Go.RowKit Go.Proofs.YtnanfmjbdmfmkaaGreatDoorW.PrintWords Go.Proofs.YtnanfmjbdmfmkaaGreatDoorW.PrintLast Go.Proofs.YtnanfmjbdmfmkaaGreatDoorW.PrintMore
attribute [local go_sem] max2_int min2_int max_two min_two max_three min_three max_four min_four   -- for this text's walks alone
set_option linter.unusedVariables false
set_option linter.unusedSimpArgs false



def errW : Option Int → Value
  | none => .nilIface
  | some c => .iface 0 (.int .i64 c)
theorem errW_none : errW none = .nilIface := rfl
theorem errW_some (c : Int) : errW (some c) = .iface 0 (.int .i64 c) := rfl

theorem info3 : (Tryz.prog.info? 3).map (fun i => (i.zero, i.size, i.bytes)) = some (some (.int .i64 0), 1, 8) := by kernel_rfl
theorem info48 : (Tryz.prog.info? 48).map (fun i => (i.zero, i.size, i.bytes)) = some (some (.int .u64 0), 1, 8) := by kernel_rfl
-- the values' own types

end Go.Proofs.YtnanfmjbdmfmkaaGreatDoor.Ps

-- PRINTED by print.py (a twelfth state) out of the translation. Not trusted: Lean checks it.
import Derived.Test.YtbcgeeaboecmgaaGreatDoorProg
import Derived.Test.YtbcgeeaboecmgaaGreatDoorWWords
import Derived.Test.YtbcgeeaboecmgaaGreatDoorWLast
import Derived.Test.YtbcgeeaboecmgaaGreatDoorWTab
import Derived.Test.YtbcgeeaboecmgaaGreatDoorWFour
import Derived.Test.YtbcgeeaboecmgaaGreatDoorWQPut
import Derived.Test.YtbcgeeaboecmgaaGreatDoorWApart
import Derived.Test.YtbcgeeaboecmgaaGreatDoorWArr
import Derived.Test.YtbcgeeaboecmgaaGreatDoorWZeros
import Derived.Test.YtbcgeeaboecmgaaGreatDoorWFoot
import Derived.Test.YtbcgeeaboecmgaaGreatDoorWKept
import Derived.Test.YtbcgeeaboecmgaaGreatDoorWShare
import Derived.Test.YtbcgeeaboecmgaaGreatDoorWN
import Derived.Test.YtbcgeeaboecmgaaGreatDoorWFootNe
import Derived.Test.YtbcgeeaboecmgaaGreatDoorWAt
import Derived.Test.YtbcgeeaboecmgaaGreatDoorWEqStruct
import Derived.Test.YtbcgeeaboecmgaaGreatDoorWRepsOne
import Derived.Test.YtbcgeeaboecmgaaGreatDoorWInv
import Derived.Test.YtbcgeeaboecmgaaGreatDoorWInvWords
import Derived.Test.YtbcgeeaboecmgaaGreatDoorWGuard
import Derived.Test.YtbcgeeaboecmgaaGreatDoorWNEv
import Derived.Test.YtbcgeeaboecmgaaGreatDoorWMore
namespace Go.Proofs.YtbcgeeaboecmgaaGreatDoor.Ps
open Go.RowKit Go.Proofs.YtbcgeeaboecmgaaGreatDoorW.PrintWords Go.Proofs.YtbcgeeaboecmgaaGreatDoorW.PrintLast Go.Proofs.YtbcgeeaboecmgaaGreatDoorW.PrintMore
attribute [local go_sem] max2_int min2_int max_two min_two max_three min_three max_four min_four   -- for this text's walks alone
set_option linter.unusedVariables false
set_option linter.unusedSimpArgs false



def errW : Option Int → Value
  | none => .nilIface
  | some c => .iface 0 (.int .i64 c)
theorem errW_none : errW none = .nilIface := rfl
theorem errW_some (c : Int) : errW (some c) = .iface 0 (.int .i64 c) := rfl

theorem info3 : (Tryz.prog.info? 3).map (fun i => (i.zero, i.size, i.bytes)) = some (some (.int .i64 0), 1, 8) := by kernel_rfl
theorem info38 : (Tryz.prog.info? 38).map (fun i => (i.zero, i.size, i.bytes)) = some (some (.int .u64 0), 1, 8) := by kernel_rfl
theorem info39 : (Tryz.prog.info? 39).map (fun i => (i.zero, i.size, i.bytes)) = some (some (.int .i64 0), 1, 8) := by kernel_rfl
theorem info132 : (Tryz.prog.info? 132).map (fun i => (i.zero, i.size, i.bytes)) = some (some (.int .u64 0), 1, 8) := by kernel_rfl
-- the values' own types

end Go.Proofs.YtbcgeeaboecmgaaGreatDoor.Ps

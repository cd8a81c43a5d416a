-- PRINTED by print.py (a twelfth state) out of the translation. Not trusted: Lean checks it.
import Derived.Test.YtnhonclncjgjoaaGreatDoorProg
import Derived.Test.YtnhonclncjgjoaaGreatDoorWWords
import Derived.Test.YtnhonclncjgjoaaGreatDoorWLast
import Derived.Test.YtnhonclncjgjoaaGreatDoorWTab
import Derived.Test.YtnhonclncjgjoaaGreatDoorWFour
import Derived.Test.YtnhonclncjgjoaaGreatDoorWQPut
import Derived.Test.YtnhonclncjgjoaaGreatDoorWApart
import Derived.Test.YtnhonclncjgjoaaGreatDoorWArr
import Derived.Test.YtnhonclncjgjoaaGreatDoorWZeros
import Derived.Test.YtnhonclncjgjoaaGreatDoorWFoot
import Derived.Test.YtnhonclncjgjoaaGreatDoorWKept
import Derived.Test.YtnhonclncjgjoaaGreatDoorWShare
import Derived.Test.YtnhonclncjgjoaaGreatDoorWN
import Derived.Test.YtnhonclncjgjoaaGreatDoorWFootNe
import Derived.Test.YtnhonclncjgjoaaGreatDoorWAt
import Derived.Test.YtnhonclncjgjoaaGreatDoorWEqStruct
import Derived.Test.YtnhonclncjgjoaaGreatDoorWRepsOne
import Derived.Test.YtnhonclncjgjoaaGreatDoorWInv
import Derived.Test.YtnhonclncjgjoaaGreatDoorWInvWords
import Derived.Test.YtnhonclncjgjoaaGreatDoorWGuard
import Derived.Test.YtnhonclncjgjoaaGreatDoorWNEv
import Derived.Test.YtnhonclncjgjoaaGreatDoorWMore
namespace Go.Proofs.YtnhonclncjgjoaaGreatDoor.Ps
open Go.RowKit Go.Proofs.YtnhonclncjgjoaaGreatDoorW.PrintWords Go.Proofs.YtnhonclncjgjoaaGreatDoorW.PrintLast Go.Proofs.YtnhonclncjgjoaaGreatDoorW.PrintMore
attribute [local go_sem] max2_int min2_int max_two min_two max_three min_three max_four min_four   -- for this text's walks alone
set_option linter.unusedVariables false
set_option linter.unusedSimpArgs false



def errW : Option Int → Value
  | none => .nilIface
  | some c => .iface 0 (.int .i64 c)
theorem errW_none : errW none = .nilIface := rfl
theorem errW_some (c : Int) : errW (some c) = .iface 0 (.int .i64 c) := rfl

theorem info3 : (Tryz.prog.info? 3).map (fun i => (i.zero, i.size, i.bytes)) = some (some (.int .i64 0), 1, 8) := by kernel_rfl
theorem info48 : (Tryz.prog.info? 48).map (fun i => (i.zero, i.size, i.bytes)) = some (some (.int .u64 0), 1, 8) := by kernel_rfl
-- the values' own types

end Go.Proofs.YtnhonclncjgjoaaGreatDoor.Ps

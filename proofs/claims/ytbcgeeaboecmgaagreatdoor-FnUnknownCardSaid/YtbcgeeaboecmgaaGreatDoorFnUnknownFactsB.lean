/- Closed facts of the card of FnUnknown, each by itself. -/
import Derived.Test.YtbcgeeaboecmgaaGreatDoorRows
import Derived.SevenTiedAt
import Derived.KernelRfl
namespace Go.Proofs.YtbcgeeaboecmgaaGreatDoor.fnUnknown
open Go
theorem w1 : Rows.fnUnknownRow.wfByText (OpenSpec.ofChange Rows.fnUnknownSpec) = true := by kernel_rfl
theorem w2 : Tryz.pinned.checked.prog.mainIs = some (true, ( "eb46f8fe6c0a1fde0bdcb52336334c8580281fece4d79610c6253f0bb7ab1ccb").toList) := by kernel_rfl
theorem w3 : false = Rows.fnUnknownRow.goesBy Tryz.pinned.checked.prog := by kernel_rfl
end Go.Proofs.YtbcgeeaboecmgaaGreatDoor.fnUnknown

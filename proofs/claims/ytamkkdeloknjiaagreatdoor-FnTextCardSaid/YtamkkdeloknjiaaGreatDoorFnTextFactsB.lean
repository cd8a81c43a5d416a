/- Closed facts of the card of FnText, each by itself. -/
import Derived.Test.YtamkkdeloknjiaaGreatDoorRows
import Derived.SevenTiedAt
import Derived.KernelRfl
namespace Go.Proofs.YtamkkdeloknjiaaGreatDoor.fnText
open Go
theorem w1 : Rows.fnTextRow.wfByText (OpenSpec.ofChange Rows.fnTextSpec) = true := by kernel_rfl
theorem w2 : Tryz.pinned.checked.prog.mainIs = some (true, ( "c773f50e5738f76d65eff4b5f4682f5eba23fbca132b84f79934c363c6087567").toList) := by kernel_rfl
theorem w3 : false = Rows.fnTextRow.goesBy Tryz.pinned.checked.prog := by kernel_rfl
end Go.Proofs.YtamkkdeloknjiaaGreatDoor.fnText

/- Closed facts of the card of FnTexts, each by itself. -/
import Derived.Test.YtfppllbmieenfaaGreatDoorRows
import Derived.SevenTiedAt
import Derived.KernelRfl
namespace Go.Proofs.YtfppllbmieenfaaGreatDoor.fnTexts
open Go
theorem w1 : Rows.fnTextsRow.wfByText (OpenSpec.ofChange Rows.fnTextsSpec) = true := by kernel_rfl
theorem w2 : Tryz.pinned.checked.prog.mainIs = some (true, ( "261173d51f00c82f1a8a5758ece59c9e58850ff10360072ceb8f152d1b663d2e").toList) := by kernel_rfl
theorem w3 : false = Rows.fnTextsRow.goesBy Tryz.pinned.checked.prog := by kernel_rfl
end Go.Proofs.YtfppllbmieenfaaGreatDoor.fnTexts

/- Closed facts of the card of FnInt, each by itself. -/
import Derived.Test.YtnhonclncjgjoaaGreatDoorRows
import Derived.SevenTiedAt
import Derived.KernelRfl
namespace Go.Proofs.YtnhonclncjgjoaaGreatDoor.fnInt
open Go
theorem w1 : Rows.fnIntRow.wfByText (OpenSpec.ofChange Rows.fnIntSpec) = true := by kernel_rfl
theorem w2 : Tryz.pinned.checked.prog.mainIs = some (true, ( "3269b0a1232f4f7b26c38c175ee10ae6a81f1de2ba2ec0f7d244d3333e0b37ef").toList) := by kernel_rfl
theorem w3 : false = Rows.fnIntRow.goesBy Tryz.pinned.checked.prog := by kernel_rfl
end Go.Proofs.YtnhonclncjgjoaaGreatDoor.fnInt

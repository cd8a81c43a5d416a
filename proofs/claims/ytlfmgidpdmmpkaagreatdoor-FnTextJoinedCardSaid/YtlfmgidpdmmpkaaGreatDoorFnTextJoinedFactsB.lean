/- Closed facts of the card of FnTextJoined, each by itself. -/
import Derived.Test.YtlfmgidpdmmpkaaGreatDoorRows
import Derived.SevenTiedAt
import Derived.KernelRfl
namespace Go.Proofs.YtlfmgidpdmmpkaaGreatDoor.fnTextJoined
open Go
theorem w1 : Rows.fnTextJoinedRow.wfByText (OpenSpec.ofChange Rows.fnTextJoinedSpec) = true := by kernel_rfl
theorem w2 : Tryz.pinned.checked.prog.mainIs = some (true, ( "d17ab22cef9e2d13ff3dbc54b9c4b30324dc1d8eee240c2d1103d086414fc558").toList) := by kernel_rfl
theorem w3 : false = Rows.fnTextJoinedRow.goesBy Tryz.pinned.checked.prog := by kernel_rfl
end Go.Proofs.YtlfmgidpdmmpkaaGreatDoor.fnTextJoined

/-
  DERIVED. GIVEN WITH THE SEED: THE CARDS: each row of YtlfmgidpdmmpkaaGreatDoorRows.lean that lists a variable, with what it lists TIED to the program's text (the seventh form; the later family's looks); each row that meets fmt, with fmt's text TOLD by the authors' own Lean function (tested against real Go, not proved from fmt's source: count such statements apart). THE CARD IS WHAT COUNTS. Prove the row's statement (the work); the ties are given (YtlfmgidpdmmpkaaGreatDoorTie.lean); close each card by the builder's one call (the guide's Derived/Test/ToyasCard.lean, 'card_holds'). Laid BY PROGRAM, IN A SANDBOX (cutbox-door.mjs). By AI agents, Wed Nov 11 2026. No macro, syntax, notation, axiom, sorry.
-/
import Derived.Test.YtlfmgidpdmmpkaaGreatDoorRows
import GoSem.ClaimSeven
namespace Go.Proofs.YtlfmgidpdmmpkaaGreatDoor
namespace Rows

/-- THE TIED CARD OF 'laws.FnTextJoined'. -/
def fnTextJoinedCard : Claim7 := { stood := { row := fnTextJoinedRow, standIns := [], harness := (true, "d17ab22cef9e2d13ff3dbc54b9c4b30324dc1d8eee240c2d1103d086414fc558"), looks := true }, kinds := [], alts := [], laidByText := true, laidKinds := [.data, .data, .data, .data, .sentinel, .sentinel, .sentinel, .data, .sentinel, .sentinel, .data, .data, .data, .data, .pinned], laidTests := true, laidLooks := .later }
def FnTextJoinedCardSaid : Prop := Claim7.holds Tryz.pinned (.plain (OpenSpec.ofChange fnTextJoinedSpec)) fnTextJoinedCard

/-- THE SECOND FORM's CARD OF 'laws.FnTextJoined'. -/
def fnTextJoinedUptoCard : Claim7 := { stood := { row := fnTextJoinedUptoRow, standIns := [], harness := (true, "d17ab22cef9e2d13ff3dbc54b9c4b30324dc1d8eee240c2d1103d086414fc558"), looks := true }, kinds := [], alts := [], laidByText := true, laidKinds := [.data, .data, .data, .data, .sentinel, .sentinel, .sentinel, .data, .sentinel, .sentinel, .data, .data, .data, .data, .pinned], laidTests := true, laidLooks := .later }
def FnTextJoinedUptoCardSaid : Prop := Claim7.holds Tryz.pinned (.plain (OpenSpec.upto fnTextJoinedSpec)) fnTextJoinedUptoCard
end Rows
end Go.Proofs.YtlfmgidpdmmpkaaGreatDoor

/-
  DERIVED. GIVEN WITH THE SEED: THE CARDS: each row of YtnanfmjbdmfmkaaGreatDoorRows.lean that lists a variable, with what it lists TIED to the program's text (the seventh form; the later family's looks); each row that meets fmt, with fmt's text TOLD by the authors' own Lean function (tested against real Go, not proved from fmt's source: count such statements apart). THE CARD IS WHAT COUNTS. Prove the row's statement (the work); the ties are given (YtnanfmjbdmfmkaaGreatDoorTie.lean); close each card by the builder's one call (the guide's Derived/Test/ToyasCard.lean, 'card_holds'). Laid BY PROGRAM, IN A SANDBOX (cutbox-door.mjs). By AI agents, Wed Nov 11 2026. No macro, syntax, notation, axiom, sorry.
-/
import Derived.Test.YtnanfmjbdmfmkaaGreatDoorRows
import GoSem.ClaimSeven
namespace Go.Proofs.YtnanfmjbdmfmkaaGreatDoor
namespace Rows

/-- THE TIED CARD OF 'laws.FnChar'. -/
def fnCharCard : Claim7 := { stood := { row := fnCharRow, standIns := [], harness := (true, "7f744c9b708c4a10aff5527b506363e8248e7361454a606933b7c4a4c4a4f901"), looks := true }, kinds := [], alts := [], laidByText := true, laidKinds := [.data, .data, .data, .data, .sentinel, .sentinel, .sentinel, .data, .sentinel, .sentinel, .data, .data, .data, .data, .pinned], laidTests := true, laidLooks := .later }
def FnCharCardSaid : Prop := Claim7.holds Tryz.pinned (.plain (OpenSpec.ofChange fnCharSpec)) fnCharCard

/-- THE SECOND FORM's CARD OF 'laws.FnChar'. -/
def fnCharUptoCard : Claim7 := { stood := { row := fnCharUptoRow, standIns := [], harness := (true, "7f744c9b708c4a10aff5527b506363e8248e7361454a606933b7c4a4c4a4f901"), looks := true }, kinds := [], alts := [], laidByText := true, laidKinds := [.data, .data, .data, .data, .sentinel, .sentinel, .sentinel, .data, .sentinel, .sentinel, .data, .data, .data, .data, .pinned], laidTests := true, laidLooks := .later }
def FnCharUptoCardSaid : Prop := Claim7.holds Tryz.pinned (.plain (OpenSpec.upto fnCharSpec)) fnCharUptoCard
end Rows
end Go.Proofs.YtnanfmjbdmfmkaaGreatDoor

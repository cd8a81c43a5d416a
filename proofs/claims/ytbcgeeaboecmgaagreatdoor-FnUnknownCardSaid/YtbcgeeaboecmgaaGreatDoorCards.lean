/-
  DERIVED. GIVEN WITH THE SEED: THE CARDS: each row of YtbcgeeaboecmgaaGreatDoorRows.lean that lists a variable, with what it lists TIED to the program's text (the seventh form; the later family's looks); each row that meets fmt, with fmt's text TOLD by the authors' own Lean function (tested against real Go, not proved from fmt's source: count such statements apart). THE CARD IS WHAT COUNTS. Prove the row's statement (the work); the ties are given (YtbcgeeaboecmgaaGreatDoorTie.lean); close each card by the builder's one call (the guide's Derived/Test/ToyasCard.lean, 'card_holds'). Laid BY PROGRAM, IN A SANDBOX (cutbox-door.mjs). By AI agents, Wed Nov 11 2026. No macro, syntax, notation, axiom, sorry.
-/
import Derived.Test.YtbcgeeaboecmgaaGreatDoorRows
import GoSem.ClaimSeven
namespace Go.Proofs.YtbcgeeaboecmgaaGreatDoor
namespace Rows

/-- THE TIED CARD OF 'laws.FnUnknown'. -/
def fnUnknownCard : Claim7 := { stood := { row := fnUnknownRow, standIns := [], harness := (true, "eb46f8fe6c0a1fde0bdcb52336334c8580281fece4d79610c6253f0bb7ab1ccb"), looks := true }, kinds := [], alts := [], laidByText := true, laidKinds := [.data, .data, .data, .data, .sentinel, .sentinel, .sentinel, .data, .sentinel, .sentinel, .data, .data, .data, .data, .pinned], laidTests := true, laidLooks := .later }
def FnUnknownCardSaid : Prop := Claim7.holds Tryz.pinned (.plain (OpenSpec.ofChange fnUnknownSpec)) fnUnknownCard

/-- THE SECOND FORM's CARD OF 'laws.FnUnknown'. -/
def fnUnknownUptoCard : Claim7 := { stood := { row := fnUnknownUptoRow, standIns := [], harness := (true, "eb46f8fe6c0a1fde0bdcb52336334c8580281fece4d79610c6253f0bb7ab1ccb"), looks := true }, kinds := [], alts := [], laidByText := true, laidKinds := [.data, .data, .data, .data, .sentinel, .sentinel, .sentinel, .data, .sentinel, .sentinel, .data, .data, .data, .data, .pinned], laidTests := true, laidLooks := .later }
def FnUnknownUptoCardSaid : Prop := Claim7.holds Tryz.pinned (.plain (OpenSpec.upto fnUnknownSpec)) fnUnknownUptoCard
end Rows
end Go.Proofs.YtbcgeeaboecmgaaGreatDoor

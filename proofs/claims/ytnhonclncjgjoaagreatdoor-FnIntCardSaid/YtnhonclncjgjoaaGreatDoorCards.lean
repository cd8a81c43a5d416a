/-
  DERIVED. GIVEN WITH THE SEED: THE CARDS: each row of YtnhonclncjgjoaaGreatDoorRows.lean that lists a variable, with what it lists TIED to the program's text (the seventh form; the later family's looks); each row that meets fmt, with fmt's text TOLD by the authors' own Lean function (tested against real Go, not proved from fmt's source: count such statements apart). THE CARD IS WHAT COUNTS. Prove the row's statement (the work); the ties are given (YtnhonclncjgjoaaGreatDoorTie.lean); close each card by the builder's one call (the guide's Derived/Test/ToyasCard.lean, 'card_holds'). Laid BY PROGRAM, IN A SANDBOX (cutbox-door.mjs). By AI agents, Wed Nov 11 2026. No macro, syntax, notation, axiom, sorry.
-/
import Derived.Test.YtnhonclncjgjoaaGreatDoorRows
import GoSem.ClaimSeven
namespace Go.Proofs.YtnhonclncjgjoaaGreatDoor
namespace Rows

/-- THE TIED CARD OF 'laws.FnInt'. -/
def fnIntCard : Claim7 := { stood := { row := fnIntRow, standIns := [], harness := (true, "3269b0a1232f4f7b26c38c175ee10ae6a81f1de2ba2ec0f7d244d3333e0b37ef"), looks := true }, kinds := [], alts := [], laidByText := true, laidKinds := [.sentinel, .sentinel, .data, .data, .data, .sentinel, .sentinel, .sentinel, .data, .data, .data, .data, .data, .pinned, .data], laidTests := true, laidLooks := .later }
def FnIntCardSaid : Prop := Claim7.holds Tryz.pinned (.plain (OpenSpec.ofChange fnIntSpec)) fnIntCard

/-- THE SECOND FORM's CARD OF 'laws.FnInt'. -/
def fnIntUptoCard : Claim7 := { stood := { row := fnIntUptoRow, standIns := [], harness := (true, "3269b0a1232f4f7b26c38c175ee10ae6a81f1de2ba2ec0f7d244d3333e0b37ef"), looks := true }, kinds := [], alts := [], laidByText := true, laidKinds := [.sentinel, .sentinel, .data, .data, .data, .sentinel, .sentinel, .sentinel, .data, .data, .data, .data, .data, .pinned, .data], laidTests := true, laidLooks := .later }
def FnIntUptoCardSaid : Prop := Claim7.holds Tryz.pinned (.plain (OpenSpec.upto fnIntSpec)) fnIntUptoCard
end Rows
end Go.Proofs.YtnhonclncjgjoaaGreatDoor

/- MakeString (where the seat has no made; else XTexts holds it). -/
import Derived.Test.YtamkkdeloknjiaaGreatDoorStr
namespace Go.Proofs.YtamkkdeloknjiaaGreatDoor
open Go Go.RowKit Go.Proofs.YtamkkdeloknjiaaGreatDoorW.PrintWords Go.MuLone
set_option linter.unusedVariables false
set_option linter.unusedSimpArgs false

/-- A text as a value of the package. -/
abbrev strV (b : Nat) : Value := .iface 85 (.pointer (some ⟨b, 0, none⟩))
set_option maxRecDepth 100000 in
set_option maxHeartbeats 1000000 in
theorem mkstr (s : ByteArray) (w : World) : Calls Tryz.prog 29 #[.string s] w fun e w' => ∃ g, e = .returned (strV g) ∧ w.heap.size ≤ g ∧ StrAt w' g s ∧ Below w.heap.size w w' := by
  by_cases h0 : s.size = 0
  · have hs : s = ByteArray.empty := by simpa using h0
    have hs : s = { data := #[] } := hs
    subst hs
    go_enter Tryz.func29, Tryz.ntmps29
    go_wp2
    go_ret
    exact ⟨_, rfl, Nat.le_refl _, ⟨cn rfl, cn rfl, cn rfl, cn rfl, fn rfl⟩, below_alloc (Below.refl _ _) _⟩
  · have h1 : (s.toList.isEmpty) = false := not_empty (by omega)
    clear h0
    go_enter Tryz.func29, Tryz.ntmps29
    go_wp2
    go_ret
    exact ⟨_, rfl, Nat.le_refl _, ⟨cn rfl, cn rfl, cn rfl, cn rfl, fn rfl⟩, below_alloc (Below.refl _ _) _⟩
end Go.Proofs.YtamkkdeloknjiaaGreatDoor

/- constant.stringVal: a text that is one, its lock free. -/
import Derived.Test.YtlfmgidpdmmpkaaGreatDoorLocks
import Derived.Test.YtlfmgidpdmmpkaaGreatDoorB
import Derived.Conc.MuLone
import Derived.Defers
namespace Go.Proofs.YtlfmgidpdmmpkaaGreatDoor
open Go Go.RowKit Go.Proofs.YtlfmgidpdmmpkaaGreatDoorW.PrintWords Go.MuLone
set_option linter.unusedVariables false
set_option linter.unusedSimpArgs false

/-- A text of the package at a block: its lock is free, it is no sum. -/
structure StrAt (w : World) (b : Nat) (s : ByteArray) : Prop where
  c0 : w.cell? ⟨b, 0, none⟩ = some (.int .i32 0)
  c2 : w.cell? ⟨b, 2, none⟩ = some (.string s)
  c3 : w.cell? ⟨b, 3, none⟩ = some (.pointer none)
  c4 : w.cell? ⟨b, 4, none⟩ = some (.pointer none)
  z0 : w.frozen? ⟨b, 0, none⟩ = false
theorem StrAt.lt {w : World} {b : Nat} {s : ByteArray} (h : StrAt w b s) : b < w.heap.size := World.block_lt_of_cell? w _ h.c0
theorem StrAt.below {w w' : World} {b : Nat} {s : ByteArray} (h : StrAt w b s) (hb : Below w.heap.size w w') : StrAt w' b s :=
  ⟨(hb.cell (p := ⟨b, 0, none⟩) h.lt).trans h.c0, (hb.cell (p := ⟨b, 2, none⟩) h.lt).trans h.c2, (hb.cell (p := ⟨b, 3, none⟩) h.lt).trans h.c3, (hb.cell (p := ⟨b, 4, none⟩) h.lt).trans h.c4, (hb.frozen (p := ⟨b, 0, none⟩) h.lt).trans h.z0⟩
/-- The world behind a lock that was taken and given back. -/
def lockW (w : World) (b : Nat) : World := (w.setCell ⟨b, 0, none⟩ (.int .i32 1)).setCell ⟨b, 0, none⟩ (.int .i32 0)
theorem StrAt.lock {w : World} {b b' : Nat} {s : ByteArray} (h : StrAt w b s) (h' : ∃ u, w.cell? ⟨b', 0, none⟩ = some u) : StrAt (lockW w b') b s := by
  unfold lockW
  by_cases e : b = b'
  · subst e
    refine ⟨World.cell?_setCell_same _ _ _ (World.cell?_setCell_same _ _ _ h.c0), ?_, ?_, ?_, by simp [h.z0]⟩
    · exact (World.cell?_setCell_other _ _ _ _ (by simp)).trans ((World.cell?_setCell_other _ _ _ _ (by simp)).trans h.c2)
    · exact (World.cell?_setCell_other _ _ _ _ (by simp)).trans ((World.cell?_setCell_other _ _ _ _ (by simp)).trans h.c3)
    · exact (World.cell?_setCell_other _ _ _ _ (by simp)).trans ((World.cell?_setCell_other _ _ _ _ (by simp)).trans h.c4)
  · have hne : b' ≠ b := fun k => e k.symm
    refine ⟨?_, ?_, ?_, ?_, by simp [h.z0]⟩
    · exact (World.cell?_setCell_other _ _ _ _ (by simp [hne])).trans ((World.cell?_setCell_other _ _ _ _ (by simp [hne])).trans h.c0)
    · exact (World.cell?_setCell_other _ _ _ _ (by simp [hne])).trans ((World.cell?_setCell_other _ _ _ _ (by simp [hne])).trans h.c2)
    · exact (World.cell?_setCell_other _ _ _ _ (by simp [hne])).trans ((World.cell?_setCell_other _ _ _ _ (by simp [hne])).trans h.c3)
    · exact (World.cell?_setCell_other _ _ _ _ (by simp [hne])).trans ((World.cell?_setCell_other _ _ _ _ (by simp [hne])).trans h.c4)
theorem lockW_below {B : Nat} {w0 w : World} {b : Nat} (h : Below B w0 w) (hb : B ≤ b) : Below B w0 (lockW w b) := (h.setCell (p := ⟨b, 0, none⟩) hb _).setCell (p := ⟨b, 0, none⟩) hb _

set_option maxRecDepth 100000 in
set_option maxHeartbeats 1000000 in
theorem string_any (b : Nat) (s : ByteArray) (w : World) (h : StrAt w b s) :
    Calls Tryz.prog 74 #[.pointer (some ⟨b, 0, none⟩)] w fun e w' => e = .returned (.string s) ∧ w' = lockW w b := by
  have h0 := h.c0
  have z0 := h.z0
  have c2 : (w.setCell ⟨b, 0, none⟩ (.int .i32 1)).cell? ⟨b, 2, none⟩ = some (.string s) := (World.cell?_setCell_other _ _ _ _ (by simp)).trans h.c2
  have c3 : (w.setCell ⟨b, 0, none⟩ (.int .i32 1)).cell? ⟨b, 3, none⟩ = some (.pointer none) := (World.cell?_setCell_other _ _ _ _ (by simp)).trans h.c3
  have HH := Aside0.mk h
  clear h
  go_enter_defers Tryz.func74, Tryz.ntmps74
  go_wp2_with (go_at_call 136; refine (lock_free Tryz.muLib ⟨b, 0, none⟩ _ h0 z0).mono ?_; rintro e w' ⟨rfl, rfl⟩)
  refine leaves_cons (f := 137) (args := #[.pointer (some ⟨b, 0, none⟩)]) (by simp) (by simp [go_sem]) ?_
  refine (unlock_deferred Tryz.muLib ⟨b, 0, none⟩ .returning _ ?_ ?_).mono ?_
  · exact World.cell?_setCell_same w ⟨b, 0, none⟩ (.int .i32 1) h0
  · simp [z0]
  rintro e u' w'' ⟨rfl, rfl, rfl⟩
  exact ⟨_, results_tmp rfl _ _ _, rfl, rfl⟩
end Go.Proofs.YtlfmgidpdmmpkaaGreatDoor

/- ParseUint of the text 7. -/
import Derived.Test.YtbcgeeaboecmgaaGreatDoorB
namespace Go.Proofs.YtbcgeeaboecmgaaGreatDoor
open Go Go.RowKit Go.Proofs.YtbcgeeaboecmgaaGreatDoorW.PrintWords
set_option linter.unusedVariables false
set_option linter.unusedSimpArgs false

def seven : ByteArray := { data := #[55] }
set_option maxRecDepth 100000 in
set_option maxHeartbeats 2000000 in
theorem seven_pu (w : World) : Calls Tryz.prog 232 #[.string seven, .int .i64 0, .int .i64 64] w fun e w' => e = .returned (.tuple #[.int .u64 7, .nilIface]) ∧ Below w.heap.size w w' := by
  obtain ⟨s, hs7⟩ : ∃ s, seven = s := ⟨_, rfl⟩
  have hb7 : bt s 0 = 55 := by rw [← hs7]; rfl
  have hz : s.size = 1 := by rw [← hs7]; rfl
  rw [hs7]
  have kb := fun W => print_bytes (P := Tryz.prog) 9 216 5 Tryz.underlying9 Tryz.underlying216 Tryz.underlying5 s W
  have hx : ∀ h : 0 < s.size, ((s[0]'h).toNat : Int) = 55 := fun h => (bt_at s 0 h).trans hb7
  have q0 := eq_true (show 0 < s.size by omega)
  have hne : (s.toList.isEmpty) = false := not_empty (by omega)
  have HZ := Aside0.mk hz
  have HB7 := Aside0.mk hb7
  clear hs7 hz hb7
  go_enter Tryz.func232, Tryz.ntmps232
  go_wp2
  clear kb hx q0 hne
  rw [HZ.out]
  go_loop [12, 13, 101] (fun u n i => ∃ (k : Nat) (m : Int), k ≤ 1 ∧ u = .bool false ∧ n = .int .u64 m ∧ i = .int .i64 k ∧ Aside0 (m = 7 * (k : Int))) (fun _ _ i => 1 - (intOf i).toNat)
  case atStart => exact ⟨0, 0, by omega, rfl, rfl, rfl, ⟨rfl⟩⟩
  case round =>
    obtain ⟨k, m, hk, rfl, rfl, rfl, HM⟩ := hrel
    by_cases hlt : k < 1
    · have hcell : (Lib.bytesWorld w 5 s).cell? ⟨w.heap.size, k, none⟩ = some (.int .u8 55) := by
        have h0 : k = 0 := by omega
        subst h0
        have h1 := bytes_cell w 5 s (by have := HZ.out; omega) 0 (by have := HZ.out; omega)
        rw [show ((0 : Nat) : Int) = 0 by rfl, HB7.out] at h1
        exact h1
      have hm : m = 0 := by have := HM.out; omega
      subst hm
      have HK := Aside0.mk (show k = 0 by omega)
      go_wp2
      go_round
      case rel => exact ⟨k + 1, 7, by omega, rfl, rfl, by go_num, ⟨by have := HK.out; omega⟩⟩
      case measure => simp [intOf]; omega
    · have hk1 : k = 1 := by omega
      have hm : m = 7 := by have := HM.out; omega
      subst hk1 hm
      go_wp2
      go_ret2
      exact ⟨rfl, bytes_below (Below.refl _ _) (Nat.le_refl _) 5 _⟩
end Go.Proofs.YtbcgeeaboecmgaaGreatDoor

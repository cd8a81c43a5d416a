/- spec.IsInt: the answer is an integer and that number. -/
import Derived.Test.YtbcgeeaboecmgaaGreatDoorIsInt
namespace Go.Proofs.YtbcgeeaboecmgaaGreatDoor
open Go Go.RowKit Go.Proofs.YtbcgeeaboecmgaaGreatDoorW.PrintWords Ps
set_option linter.unusedVariables false
set_option linter.unusedSimpArgs false

set_option maxRecDepth 100000 in
set_option maxHeartbeats 4000000 in
theorem isInt_any (neg : Bool) (A : Option Addr) (c : Nat) (ws : List Int) (w : World) (hN : Normal ws) (hn : ws.length ≤ 900) (hneg : neg = (neg && decide (0 < (trimL (digs ws)).length)))
    (hr : Kd.C (Kd.int .u64) w A ws.length ws) (hc : ws.length ≤ c) (L : List Int) (hL : trimL (digs ws) = L) (hl : L.length ≤ 10000) (A1 : Option Addr) (c1 : Nat) (h1 : Kd.C (Kd.int .i64) w A1 L.length L) (hc1 : L.length ≤ c1) (A2 : Option Addr) (c2 : Nat) (h2 : Kd.C (Kd.int .i64) w A2 1 [1]) (hc2 : 1 ≤ c2) :
    Calls Tryz.prog 16 #[toldInt neg (.slice A ws.length c), .agg #[.bool neg, .slice A1 L.length c1, .slice A2 1 c2]] w fun e w' => e = .returned (.bool true) ∧ Below w.heap.size w w' := by
  have hin : ∀ W, Below w.heap.size w W → Calls Tryz.prog 71 #[toldInt neg (.slice A ws.length c)] W fun e w' => ∃ v1 v2, e = .returned (.tuple #[.agg #[.bool neg, v1, v2], .bool true]) ∧ DV w' W.heap.size v1 L ∧ DV w' W.heap.size v2 [1] ∧ Below W.heap.size W w' := fun W hb => hL ▸ integer_any neg A c ws W hN hn hneg (Kd.C_below hr hb) hc
  have hsm : ∀ W, Below w.heap.size w W → ∀ A1' c1' A2' c2' B, DV W B (.slice A1' L.length c1') L → DV W B (.slice A2' 1 c2') [1] → Calls Tryz.prog 72 #[.agg #[.bool neg, .slice A1' L.length c1', .slice A2' 1 c2'], .agg #[.bool neg, .slice A1 L.length c1, .slice A2 1 c2]] W fun e w' => e = .returned (.bool true) ∧ Below W.heap.size W w' := by
    intro W hb A1' c1' A2' c2' B d1 d2
    have r1 := DV.reads d1
    have r2 := DV.reads d2
    exact (spec_same.calls 20000 neg A1' c1' L A2' c2' [1] neg A1 c1 L A2 c2 [1] true W r1.2.2 r1.2.1 r2.2.2 r2.2.1 (Kd.C_below h1 hb) hc1 (Kd.C_below h2 hb) hc2 (same_same neg L [1] hl (by simp))).mono fun e w' h => h
  have HIN := Aside0.mk hin
  have HSM := Aside0.mk hsm
  obtain ⟨n, hn⟩ : ∃ n, ws.length = n := ⟨_, rfl⟩
  rw [hn] at HIN ⊢
  clear hin hsm hneg hr hc hL hl h1 hc1 h2 hc2 hn hN
  unfold toldInt at HIN ⊢
  go_enter Tryz.func16, Tryz.ntmps16
  go_wp2_with fail
  refine (HIN.out _ (below_alloc (below_alloc (Below.refl _ _) _) _)).mono ?_
  rintro e w1 ⟨v1, v2, rfl, hv1, hv2, hbel⟩
  obtain ⟨A1', c1', rfl⟩ := hv1.slice
  obtain ⟨A2', c2', rfl⟩ := hv2.slice
  have HB := Aside0.mk hbel
  have HB0 := Aside0.mk (show Below w.heap.size w w1 from (below_alloc (below_alloc (Below.refl _ _) _) _).trans (hbel.mono (by simp; omega)))
  have HV1 := Aside0.mk hv1
  have HV2 := Aside0.mk hv2
  have hz := hbel.size
  simp only [World.size_alloc] at hz
  replace hz := Nat.lt_of_succ_le hz
  have e1 : ∀ i, w1.cell? ⟨w.heap.size + 1, i, none⟩ = (#[.bool neg, .slice A1 L.length c1, .slice A2 1 c2] : Array Value)[i]? := fun i => (hbel.cell (p := ⟨w.heap.size + 1, i, none⟩) (by simp only [World.size_alloc]; omega)).trans (cn (by simp))
  clear hv1 hv2 hbel
  go_wp2_with fail
  refine (HSM.out _ (below_alloc HB0.out _) _ _ _ _ _ (HV1.out.below (below_alloc (Below.refl _ _) _)) (HV2.out.below (below_alloc (Below.refl _ _) _))).mono ?_
  rintro e w2 ⟨rfl, hb2⟩
  have HB2 := Aside0.mk hb2
  clear hb2
  go_wp2
  go_ret
  exact ⟨rfl, (below_alloc HB0.out _).trans (HB2.out.mono (by simp; omega))⟩
end Go.Proofs.YtbcgeeaboecmgaaGreatDoor

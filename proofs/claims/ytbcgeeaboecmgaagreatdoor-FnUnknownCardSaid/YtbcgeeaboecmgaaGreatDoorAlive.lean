/- laws.alive is true: the literal 7 is the number 7. -/
import Derived.Test.YtbcgeeaboecmgaaGreatDoorSeven
import Derived.Test.YtbcgeeaboecmgaaGreatDoorPint
import Derived.Test.YtbcgeeaboecmgaaGreatDoorLitBase
namespace Go.Proofs.YtbcgeeaboecmgaaGreatDoor
open Go Go.RowKit Go.Proofs.YtbcgeeaboecmgaaGreatDoorW.PrintWords Ps
set_option linter.unusedVariables false
set_option linter.unusedSimpArgs false

theorem seven_mfl (w : World) : Calls Tryz.prog 73 #[.string seven, .int .i64 5, .int .u64 0] w fun e w' => e = .returned (.iface 65 (.int .i64 7)) ∧ Below w.heap.size w w' :=
  mfl_int_ok seven 7 w (ppint_ok seven 7 w (pint_ok seven (by decide) (by rfl) (by rfl) 7 (by decide) (by decide) w (seven_pu w)))

set_option maxRecDepth 100000 in
set_option maxHeartbeats 2000000 in
theorem alive_any (w : World) : Calls Tryz.prog 7 #[] w fun e w' => e = .returned (.bool true) ∧ Below w.heap.size w w' := by
  have HL := Aside0.mk (literal_int0 seven 7 (by decide) (by decide) w (fun W _ => seven_mfl W))
  go_enter Tryz.func7, Tryz.ntmps7
  go_wp2_with fail
  refine HL.out.mono ?_
  rintro e w1 ⟨A, c, rfl, hu, hb1⟩
  have HB1 := Aside0.mk hb1
  have HU := Aside0.mk hu
  clear hb1 hu HL
  unfold toldInt
  go_wp2_with fail
  refine (of64_any 7 (by decide) (by decide) w1).mono ?_
  rintro e w2 ⟨A1, c1, A2, c2, rfl, hc1, hc2, r1, r2, hb2⟩
  have HB2 := Aside0.mk hb2
  have h3 := isInt_lit 7 (by decide) (by decide) A c w2 (Kd.V_reads' (HU.out.below hb2)).2.2 (Kd.V_reads' (HU.out.below hb2)).2.1 A1 c1 A2 c2 hc1 hc2 r1 r2
  have H3 := Aside0.mk h3
  clear h3 hb2 r1 r2 hc1 hc2 HU
  unfold toldInt at H3
  go_wp2_with fail
  refine H3.out.mono ?_
  rintro e w3 ⟨rfl, hb3⟩
  have HB3 := Aside0.mk ((HB1.out.trans (HB2.out.mono HB1.out.size)).trans (hb3.mono (Nat.le_trans HB1.out.size HB2.out.size)))
  clear hb3
  go_wp2
  go_ret
  exact ⟨rfl, HB3.out⟩
end Go.Proofs.YtbcgeeaboecmgaaGreatDoor

/- math/big's Int.Add where the first is 0. -/
import Derived.Test.YtbcgeeaboecmgaaGreatDoorBigC
namespace Go.Proofs.YtbcgeeaboecmgaaGreatDoor
open Go Go.RowKit Go.Proofs.YtbcgeeaboecmgaaGreatDoorW.PrintWords
set_option linter.unusedVariables false
set_option linter.unusedSimpArgs false

set_option maxRecDepth 100000 in
set_option maxHeartbeats 4000000 in
theorem int_addl (zb zo xb yb : Nat) (vx vy : Value) (x : Int) (nx ny neg0 : Bool) (w : World) (hz : IntAt w zb zo neg0 (.slice none 0 0)) (hx : IntAt w xb 0 nx vx) (hy : IntAt w yb 0 ny vy) (hvx : N1 w vx 0) (hvy : N1 w vy x) (hx0 : 0 < x) (hzx : xb ≠ zb) (hzy : yb ≠ zb) :
    Calls Tryz.prog 29 #[.pointer (some ⟨zb, zo, none⟩), .pointer (some ⟨xb, 0, none⟩), .pointer (some ⟨yb, 0, none⟩)] w (AddI w zb zo x) := by
  have HA := Aside0.mk (fun W (hb : Below w.heap.size w W) => nat_addl vy vx x W (hvy.below hb) (hvx.below hb))
  have HS := Aside0.mk (fun W (hb : Below w.heap.size w W) => nat_sub vy vx x W (hvy.below hb) (hvx.below hb))
  have hge : decide (0 ≤ ord3 0 x) = false := by unfold ord3; rw [if_pos hx0]; rfl
  have HC := Aside0.mk (fun W (hb : Below w.heap.size w W) => cmp1 vx vy 0 x W (hvx.below hb) (hvy.below hb))
  obtain ⟨Ax, mx, cx, rfl⟩ := hvx.sl
  obtain ⟨Ay, my, cy, rfl⟩ := hvy.sl
  have zc0 := hz.c0
  have zc1 := hz.c1
  have zz0 := hz.z0
  have zz1 := hz.z1
  have xc0 := hx.c0
  have xc1 : w.cell? ⟨xb, 1, none⟩ = some (.slice Ax mx cx) := hx.c1
  have yc0 := hy.c0
  have yc1 : w.cell? ⟨yb, 1, none⟩ = some (.slice Ay my cy) := hy.c1
  have lz := hz.lt
  have lx := hx.lt
  have ly := hy.lt
  have HZ := Aside0.mk hz
  have hne2 : ¬ xb = zb := hzx
  have hne3 : ¬ zb = xb := fun h => hzx h.symm
  have hne4 : ¬ yb = zb := hzy
  have hne5 : ¬ zb = yb := fun h => hzy h.symm
  clear hz hx hy hvx hvy hzx hzy hx0
  cases nx <;> cases ny
  · go_enter Tryz.func29, Tryz.ntmps29
    go_wp2
    go_quiet (fail)
    go_wp2
    go_region_with (go_at_call 86; refine (HA.out _ (below_drew (below_drewN (Below.refl _ _) _))).mono ?_; rintro e w' ⟨v', rfl, hN, ho, hb⟩; obtain ⟨A', n', c', rfl⟩ := hN.sl; have HN := Aside0.mk (show AdK w w' zb xb yb zo (.slice A' n' c') x from ⟨(below_drew (below_drewN (Below.refl _ _) _)).trans hb, hN, fun k h => (ho k h).1⟩); have k0 := (hb.cell (p := ⟨zb, zo, none⟩) lz).trans zc0; have k1 := (hb.cell (p := ⟨zb, zo + 1, none⟩) lz).trans zc1; have y0 := (hb.frozen (p := ⟨zb, zo, none⟩) lz).trans zz0; have y1 := (hb.frozen (p := ⟨zb, zo + 1, none⟩) lz).trans zz1; clear hN ho hb)
    all_goals
      rcases HN.out.n.shape with ⟨_, A2, c2, e2⟩ | ⟨_, A2, c2, e2⟩ <;> cases e2
    all_goals
      go_wp2
      go_ret
      exact ⟨_, put_end HZ.out HN.out.b HN.out.n HN.out.o⟩
  · go_enter Tryz.func29, Tryz.ntmps29
    go_wp2
    go_quiet (fail)
    go_wp2
    go_quiet ((go_at_call 87; exact quiet_more (HC.out _ (below_drewN (Below.refl _ _) _))))
    go_wp2
    go_region_with (go_at_call 88; refine (HS.out _ (below_drew (below_drewN (Below.refl _ _) _))).mono ?_; rintro e w' ⟨v', rfl, hN, ho, hb⟩; obtain ⟨A', n', c', rfl⟩ := hN.sl; have HN := Aside0.mk (show AdK w w' zb xb yb zo (.slice A' n' c') x from ⟨(below_drew (below_drewN (Below.refl _ _) _)).trans hb, hN, fun k h => (ho k h).1⟩); have k0 := (hb.cell (p := ⟨zb, zo, none⟩) lz).trans zc0; have k1 := (hb.cell (p := ⟨zb, zo + 1, none⟩) lz).trans zc1; have y0 := (hb.frozen (p := ⟨zb, zo, none⟩) lz).trans zz0; have y1 := (hb.frozen (p := ⟨zb, zo + 1, none⟩) lz).trans zz1; clear hN ho hb)
    all_goals
      rcases HN.out.n.shape with ⟨_, A2, c2, e2⟩ | ⟨_, A2, c2, e2⟩ <;> cases e2
    all_goals
      go_wp2
      go_ret
      exact ⟨_, put_end HZ.out HN.out.b HN.out.n HN.out.o⟩
  · go_enter Tryz.func29, Tryz.ntmps29
    go_wp2
    go_quiet (fail)
    go_wp2
    go_quiet ((go_at_call 87; exact quiet_more (HC.out _ (below_drewN (Below.refl _ _) _))))
    go_wp2
    go_region_with (go_at_call 88; refine (HS.out _ (below_drew (below_drewN (Below.refl _ _) _))).mono ?_; rintro e w' ⟨v', rfl, hN, ho, hb⟩; obtain ⟨A', n', c', rfl⟩ := hN.sl; have HN := Aside0.mk (show AdK w w' zb xb yb zo (.slice A' n' c') x from ⟨(below_drew (below_drewN (Below.refl _ _) _)).trans hb, hN, fun k h => (ho k h).1⟩); have k0 := (hb.cell (p := ⟨zb, zo, none⟩) lz).trans zc0; have k1 := (hb.cell (p := ⟨zb, zo + 1, none⟩) lz).trans zc1; have y0 := (hb.frozen (p := ⟨zb, zo, none⟩) lz).trans zz0; have y1 := (hb.frozen (p := ⟨zb, zo + 1, none⟩) lz).trans zz1; clear hN ho hb)
    all_goals
      rcases HN.out.n.shape with ⟨_, A2, c2, e2⟩ | ⟨_, A2, c2, e2⟩ <;> cases e2
    all_goals
      go_wp2
      go_ret
      exact ⟨_, put_end HZ.out HN.out.b HN.out.n HN.out.o⟩
  · go_enter Tryz.func29, Tryz.ntmps29
    go_wp2
    go_quiet (fail)
    go_wp2
    go_region_with (go_at_call 86; refine (HA.out _ (below_drew (below_drewN (Below.refl _ _) _))).mono ?_; rintro e w' ⟨v', rfl, hN, ho, hb⟩; obtain ⟨A', n', c', rfl⟩ := hN.sl; have HN := Aside0.mk (show AdK w w' zb xb yb zo (.slice A' n' c') x from ⟨(below_drew (below_drewN (Below.refl _ _) _)).trans hb, hN, fun k h => (ho k h).1⟩); have k0 := (hb.cell (p := ⟨zb, zo, none⟩) lz).trans zc0; have k1 := (hb.cell (p := ⟨zb, zo + 1, none⟩) lz).trans zc1; have y0 := (hb.frozen (p := ⟨zb, zo, none⟩) lz).trans zz0; have y1 := (hb.frozen (p := ⟨zb, zo + 1, none⟩) lz).trans zz1; clear hN ho hb)
    all_goals
      rcases HN.out.n.shape with ⟨_, A2, c2, e2⟩ | ⟨_, A2, c2, e2⟩ <;> cases e2
    all_goals
      go_wp2
      go_ret
      exact ⟨_, put_end HZ.out HN.out.b HN.out.n HN.out.o⟩
end Go.Proofs.YtbcgeeaboecmgaaGreatDoor

-- PRINTED by print.py (a twelfth state) out of the translation. Not trusted: Lean checks it.
import Derived.Test.YtbcgeeaboecmgaaGreatDoorPs0
import Derived.Test.YtbcgeeaboecmgaaGreatDoorPs1
namespace Go.Proofs.YtbcgeeaboecmgaaGreatDoor.Ps
open Go.RowKit Go.Proofs.YtbcgeeaboecmgaaGreatDoorW.PrintWords Go.Proofs.YtbcgeeaboecmgaaGreatDoorW.PrintLast Go.Proofs.YtbcgeeaboecmgaaGreatDoorW.PrintMore
attribute [local go_sem] max2_int min2_int max_two min_two max_three min_three max_four min_four   -- for this text's walks alone
set_option linter.unusedVariables false
set_option linter.unusedSimpArgs false

/-! ### spec_same: function 72 -/
def spec_same.f (k : Nat) (a0_0 : Bool) (l0_1 : List Int) (l0_2 : List Int) (a1_0 : Bool) (l1_1 : List Int) (l1_2 : List Int) : Option (Bool) := if (a0_0 == a1_0) = true then ((spec_Cmp.f k l0_1 l1_1).bind fun t165 => (if t165 = 0 then ((spec_Cmp.f k l0_2 l1_2).bind fun t166 => (some (t166 == 0))) else (some false))) else (some false)
theorem spec_same.mono : ∀ a0 a1 a2 a3 a4 a5 k, LeO (spec_same.f k a0 a1 a2 a3 a4 a5) (spec_same.f (k + 1) a0 a1 a2 a3 a4 a5) := by
  intro a0 a1 a2 a3 a4 a5 k
  unfold spec_same.f
  repeat' first
      | (with_reducible exact spec_Cmp.mono _ _ _)
      | (with_reducible exact LeO.refl _)
      | (with_reducible exact LeO.none _)
      | (with_reducible refine LeO.ite ?_ ?_)
      | (with_reducible refine LeO.bind ?_ (fun _ => ?_))
      | exact spec_Cmp.mono _ _ _
      | exact LeO.none _
      | refine LeO.ite ?_ ?_
      | refine LeO.bind ?_ (fun _ => ?_)
set_option maxHeartbeats 8000000 in
set_option maxRecDepth 100000 in
theorem spec_same.calls (k : Nat) (a0_0 : Bool) (A0_1 : Option Addr) (c0_1 : Nat) (l0_1 : List Int) (A0_2 : Option Addr) (c0_2 : Nat) (l0_2 : List Int) (a1_0 : Bool) (A1_1 : Option Addr) (c1_1 : Nat) (l1_1 : List Int) (A1_2 : Option Addr) (c1_2 : Nat) (l1_2 : List Int) (r : Bool) (w : World) (hr0_1 : Kd.C (Kd.int .i64) w A0_1 l0_1.length l0_1) (hc0_1 : l0_1.length ≤ c0_1) (hr0_2 : Kd.C (Kd.int .i64) w A0_2 l0_2.length l0_2) (hc0_2 : l0_2.length ≤ c0_2) (hr1_1 : Kd.C (Kd.int .i64) w A1_1 l1_1.length l1_1) (hc1_1 : l1_1.length ≤ c1_1) (hr1_2 : Kd.C (Kd.int .i64) w A1_2 l1_2.length l1_2) (hc1_2 : l1_2.length ≤ c1_2) (h : spec_same.f k a0_0 l0_1 l0_2 a1_0 l1_1 l1_2 = some r) :
    Calls Tryz.prog 72 #[.agg #[.bool a0_0, .slice A0_1 l0_1.length c0_1, .slice A0_2 l0_2.length c0_2], .agg #[.bool a1_0, .slice A1_1 l1_1.length c1_1, .slice A1_2 l1_2.length c1_2]] w fun e w' => e = .returned (.bool r) ∧ Below w.heap.size w w' := by
  have hu36 := Tryz.underlying36
  have HR0_1 := Aside0.mk hr0_1
  have HC0_1 := Aside0.mk hc0_1
  clear hr0_1 hc0_1
  have HR0_2 := Aside0.mk hr0_2
  have HC0_2 := Aside0.mk hc0_2
  clear hr0_2 hc0_2
  have HR1_1 := Aside0.mk hr1_1
  have HC1_1 := Aside0.mk hc1_1
  clear hr1_1 hc1_1
  have HR1_2 := Aside0.mk hr1_2
  have HC1_2 := Aside0.mk hc1_2
  clear hr1_2 hc1_2
  have HB := Aside0.mk (Below.refl w.heap.size w)
  have H : (if (a0_0 == a1_0) = true then ((spec_Cmp.f k l0_1 l1_1).bind fun t165 => (if t165 = 0 then ((spec_Cmp.f k l0_2 l1_2).bind fun t166 => (some (t166 == 0))) else (some false))) else (some false)) = some r := h
  clear h
  by_cases c3 : (a0_0 == a1_0) = true
  · rw [if_pos c3] at H
    have c3b0 : (a0_0 == a1_0) = true := c3
    (try (have c3b1 : decide (a0_0 = a1_0) = true := by simpa using c3))
    (try (have c3b2 : (a0_0 == a1_0) = true := by simpa using c3))
    clear c3
    replace H := Option.bind_eq_some_iff.mp H
    obtain ⟨t165, A40, H⟩ := H
    replace H : (if t165 = 0 then ((spec_Cmp.f k l0_2 l1_2).bind fun t166 => (some (t166 == 0))) else (some false)) = some r := H
    have A4 := Aside0.mk A40
    clear A40
    by_cases c5 : t165 = 0
    · rw [if_pos c5] at H
      have c5b0 : (t165 == 0) = true := beq_iff_eq.mpr c5
      have c5b1 : (t165 != 0) = false := bne_eq_false_iff_eq.mpr c5
      clear c5
      replace H := Option.bind_eq_some_iff.mp H
      obtain ⟨t166, A60, H⟩ := H
      replace H : (some (t166 == 0)) = some r := H
      have A6 := Aside0.mk A60
      clear A60
      obtain rfl := Option.some.inj H
      go_enter Tryz.func72, Tryz.ntmps72
      go_wp2_with (first | ((with_reducible refine gate_dst (N := 2) rfl ?_); refine box_event ?hg (N := 2) ?hd (cs := #[.bool a0_0, .slice A0_1 l0_1.length c0_1, .slice A0_2 l0_2.length c0_2]) (t := 36) ?hr ?_; (case hd => rfl); (case hg => rfl); (case hr => first | (go_simp; done) | (go_simp; rfl)); intro gb163 hg w7 hbox hb; have n0_ := Aside0.mk (below_step (by repeat (first | (with_reducible first | exact HB.out | apply below_alloc | apply pw_below_drewN | apply below_drew1) | exact HB.out)) hb); have n1_ := Aside0.mk (hbox); have n2_ := Aside0.mk ((by rw [hg]; exact (below_size (by repeat (first | (with_reducible first | exact HB.out | apply below_alloc | apply pw_below_drewN | apply below_drew1) | exact HB.out))) : w.heap.size ≤ gb163)); have n3_ := Aside0.mk ((by rw [hg]; exact (below_size (by repeat (first | (with_reducible first | exact HB.out | apply below_alloc | apply pw_below_drewN | apply below_drew1) | exact HB.out))) : w.heap.size ≤ gb163)); clear HB; have HB := n0_; have BK163 := n1_; have GW163 := n2_; have GE163 := n3_; clear n0_ n1_ n2_ n3_; clear hb hbox hg) | ((with_reducible refine gate_dst (N := 3) rfl ?_); refine box_event ?hg (N := 3) ?hd (cs := #[.bool a1_0, .slice A1_1 l1_1.length c1_1, .slice A1_2 l1_2.length c1_2]) (t := 36) ?hr ?_; (case hd => rfl); (case hg => rfl); (case hr => first | (go_simp; done) | (go_simp; rfl)); intro gb164 hg w8 hbox hb; have n0_ := Aside0.mk (blk_below (g := gb163) (o := .cells #[.bool a0_0, .slice A0_1 l0_1.length c0_1, .slice A0_2 l0_2.length c0_2] 36 (0, 0)) (by (with_reducible repeat (first | refine blk_drewN ?_ _ | refine blk_drew ?_ | refine blk_alloc ?_ _)); exact BK163.out) hb); have n1_ := Aside0.mk (below_step (by repeat (first | (with_reducible first | exact HB.out | apply below_alloc | apply pw_below_drewN | apply below_drew1 | refine below_set ?_ GE163.out) | exact HB.out)) hb); have n2_ := Aside0.mk (hbox); have n3_ := Aside0.mk ((by rw [hg]; exact (below_size (by repeat (first | (with_reducible first | exact HB.out | apply below_alloc | apply pw_below_drewN | apply below_drew1 | refine below_set ?_ GE163.out) | exact HB.out))) : w.heap.size ≤ gb164)); have n4_ := Aside0.mk ((by rw [hg]; exact (below_size (by repeat (first | (with_reducible first | exact HB.out | apply below_alloc | apply pw_below_drewN | apply below_drew1 | refine below_set ?_ GE163.out) | exact HB.out))) : w.heap.size ≤ gb164)); have n5_ := Aside0.mk ((by rw [hg]; exact Nat.ne_of_lt (blk_lt (g := gb163) (o := .cells #[.bool a0_0, .slice A0_1 l0_1.length c0_1, .slice A0_2 l0_2.length c0_2] 36 (0, 0)) (by (with_reducible repeat (first | refine blk_drewN ?_ _ | refine blk_drew ?_ | refine blk_alloc ?_ _)); exact BK163.out)) : gb163 ≠ gb164)); have n6_ := Aside0.mk ((by rw [hg]; exact Nat.ne_of_gt (blk_lt (g := gb163) (o := .cells #[.bool a0_0, .slice A0_1 l0_1.length c0_1, .slice A0_2 l0_2.length c0_2] 36 (0, 0)) (by (with_reducible repeat (first | refine blk_drewN ?_ _ | refine blk_drew ?_ | refine blk_alloc ?_ _)); exact BK163.out)) : gb164 ≠ gb163)); clear BK163; clear HB; have BK163 := n0_; have HB := n1_; have BK164 := n2_; have GW164 := n3_; have GE164 := n4_; have NB163_164 := n5_; have NB164_163 := n6_; clear n0_ n1_ n2_ n3_ n4_ n5_ n6_; clear hb hbox hg; have hnb9 := NB163_164.out; have hnc9 := NB164_163.out; have hcz10_0 : w8.cell? ⟨gb163, 0, none⟩ = some (.bool a0_0) := (blk_cell BK163.out 0).trans rfl; have hcz10_1 : w8.cell? ⟨gb163, 1, none⟩ = some (.slice A0_1 l0_1.length c0_1) := (blk_cell BK163.out 1).trans rfl; have hcz10_2 : w8.cell? ⟨gb163, 2, none⟩ = some (.slice A0_2 l0_2.length c0_2) := (blk_cell BK163.out 2).trans rfl; have hfz10_0 := blk_frozen BK163.out 0; have hfz10_1 := blk_frozen BK163.out 1; have hfz10_2 := blk_frozen BK163.out 2; have hcz11_0 : w8.cell? ⟨gb164, 0, none⟩ = some (.bool a1_0) := (blk_cell BK164.out 0).trans rfl; have hcz11_1 : w8.cell? ⟨gb164, 1, none⟩ = some (.slice A1_1 l1_1.length c1_1) := (blk_cell BK164.out 1).trans rfl; have hcz11_2 : w8.cell? ⟨gb164, 2, none⟩ = some (.slice A1_2 l1_2.length c1_2) := (blk_cell BK164.out 2).trans rfl; have hfz11_0 := blk_frozen BK164.out 0; have hfz11_1 := blk_frozen BK164.out 1; have hfz11_2 := blk_frozen BK164.out 2) | (go_at_call 132; (with_reducible refine (spec_Cmp.calls k _ _ l0_1 _ _ l1_1 t165 _ ?side1 ?side2 ?side3 ?side4 A4.out).mono ?_); (case side1 => repeat (first | exact (Kd.C_below HR0_1.out HB.out) | (with_reducible refine Kd.C_alloc ?_ _) | (with_reducible refine Kd.C_drewN ?_ _) | (with_reducible refine Kd.C_drew ?_))); (case side2 => exact HC0_1.out); (case side3 => repeat (first | exact (Kd.C_below HR1_1.out HB.out) | (with_reducible refine Kd.C_alloc ?_ _) | (with_reducible refine Kd.C_drewN ?_ _) | (with_reducible refine Kd.C_drew ?_))); (case side4 => exact HC1_1.out); rintro e w' ⟨rfl, ⟨nd, rfl⟩⟩) | (go_at_call 132; (with_reducible refine (spec_Cmp.calls k _ _ l0_2 _ _ l1_2 t166 _ ?side1 ?side2 ?side3 ?side4 A6.out).mono ?_); (case side1 => repeat (first | exact (Kd.C_below HR0_2.out (by repeat (first | (with_reducible first | exact HB.out | apply below_alloc | apply pw_below_drewN | apply below_drew1 | refine below_set ?_ GE163.out | refine below_set ?_ GE164.out) | exact HB.out))) | (with_reducible refine Kd.C_alloc ?_ _) | (with_reducible refine Kd.C_drewN ?_ _) | (with_reducible refine Kd.C_drew ?_))); (case side2 => exact HC0_2.out); (case side3 => repeat (first | exact (Kd.C_below HR1_2.out (by repeat (first | (with_reducible first | exact HB.out | apply below_alloc | apply pw_below_drewN | apply below_drew1 | refine below_set ?_ GE163.out | refine below_set ?_ GE164.out) | exact HB.out))) | (with_reducible refine Kd.C_alloc ?_ _) | (with_reducible refine Kd.C_drewN ?_ _) | (with_reducible refine Kd.C_drew ?_))); (case side4 => exact HC1_2.out); rintro e w' ⟨rfl, ⟨nd, rfl⟩⟩))
      go_ret
      exact ⟨by first | rfl | (simp [errW_none, errW_some] <;> rfl) | (simp [*, errW_none, errW_some] <;> rfl), by repeat (first | (with_reducible first | exact HB.out | apply below_alloc | apply pw_below_drewN | apply below_drew1 | refine below_set ?_ GE163.out | refine below_set ?_ GE164.out) | exact HB.out)⟩
    · rw [if_neg c5] at H
      have c5b0 : (t165 == 0) = false := beq_eq_false_iff_ne.mpr c5
      have c5b1 : (t165 != 0) = true := bne_iff_ne.mpr c5
      obtain rfl := Option.some.inj H
      go_enter Tryz.func72, Tryz.ntmps72
      go_wp2_with (first | ((with_reducible refine gate_dst (N := 2) rfl ?_); refine box_event ?hg (N := 2) ?hd (cs := #[.bool a0_0, .slice A0_1 l0_1.length c0_1, .slice A0_2 l0_2.length c0_2]) (t := 36) ?hr ?_; (case hd => rfl); (case hg => rfl); (case hr => first | (go_simp; done) | (go_simp; rfl)); intro gb163 hg w12 hbox hb; have n0_ := Aside0.mk (below_step (by repeat (first | (with_reducible first | exact HB.out | apply below_alloc | apply pw_below_drewN | apply below_drew1) | exact HB.out)) hb); have n1_ := Aside0.mk (hbox); have n2_ := Aside0.mk ((by rw [hg]; exact (below_size (by repeat (first | (with_reducible first | exact HB.out | apply below_alloc | apply pw_below_drewN | apply below_drew1) | exact HB.out))) : w.heap.size ≤ gb163)); have n3_ := Aside0.mk ((by rw [hg]; exact (below_size (by repeat (first | (with_reducible first | exact HB.out | apply below_alloc | apply pw_below_drewN | apply below_drew1) | exact HB.out))) : w.heap.size ≤ gb163)); clear HB; have HB := n0_; have BK163 := n1_; have GW163 := n2_; have GE163 := n3_; clear n0_ n1_ n2_ n3_; clear hb hbox hg) | ((with_reducible refine gate_dst (N := 3) rfl ?_); refine box_event ?hg (N := 3) ?hd (cs := #[.bool a1_0, .slice A1_1 l1_1.length c1_1, .slice A1_2 l1_2.length c1_2]) (t := 36) ?hr ?_; (case hd => rfl); (case hg => rfl); (case hr => first | (go_simp; done) | (go_simp; rfl)); intro gb164 hg w13 hbox hb; have n0_ := Aside0.mk (blk_below (g := gb163) (o := .cells #[.bool a0_0, .slice A0_1 l0_1.length c0_1, .slice A0_2 l0_2.length c0_2] 36 (0, 0)) (by (with_reducible repeat (first | refine blk_drewN ?_ _ | refine blk_drew ?_ | refine blk_alloc ?_ _)); exact BK163.out) hb); have n1_ := Aside0.mk (below_step (by repeat (first | (with_reducible first | exact HB.out | apply below_alloc | apply pw_below_drewN | apply below_drew1 | refine below_set ?_ GE163.out) | exact HB.out)) hb); have n2_ := Aside0.mk (hbox); have n3_ := Aside0.mk ((by rw [hg]; exact (below_size (by repeat (first | (with_reducible first | exact HB.out | apply below_alloc | apply pw_below_drewN | apply below_drew1 | refine below_set ?_ GE163.out) | exact HB.out))) : w.heap.size ≤ gb164)); have n4_ := Aside0.mk ((by rw [hg]; exact (below_size (by repeat (first | (with_reducible first | exact HB.out | apply below_alloc | apply pw_below_drewN | apply below_drew1 | refine below_set ?_ GE163.out) | exact HB.out))) : w.heap.size ≤ gb164)); have n5_ := Aside0.mk ((by rw [hg]; exact Nat.ne_of_lt (blk_lt (g := gb163) (o := .cells #[.bool a0_0, .slice A0_1 l0_1.length c0_1, .slice A0_2 l0_2.length c0_2] 36 (0, 0)) (by (with_reducible repeat (first | refine blk_drewN ?_ _ | refine blk_drew ?_ | refine blk_alloc ?_ _)); exact BK163.out)) : gb163 ≠ gb164)); have n6_ := Aside0.mk ((by rw [hg]; exact Nat.ne_of_gt (blk_lt (g := gb163) (o := .cells #[.bool a0_0, .slice A0_1 l0_1.length c0_1, .slice A0_2 l0_2.length c0_2] 36 (0, 0)) (by (with_reducible repeat (first | refine blk_drewN ?_ _ | refine blk_drew ?_ | refine blk_alloc ?_ _)); exact BK163.out)) : gb164 ≠ gb163)); clear BK163; clear HB; have BK163 := n0_; have HB := n1_; have BK164 := n2_; have GW164 := n3_; have GE164 := n4_; have NB163_164 := n5_; have NB164_163 := n6_; clear n0_ n1_ n2_ n3_ n4_ n5_ n6_; clear hb hbox hg; have hnb14 := NB163_164.out; have hnc14 := NB164_163.out; have hcz15_0 : w13.cell? ⟨gb163, 0, none⟩ = some (.bool a0_0) := (blk_cell BK163.out 0).trans rfl; have hcz15_1 : w13.cell? ⟨gb163, 1, none⟩ = some (.slice A0_1 l0_1.length c0_1) := (blk_cell BK163.out 1).trans rfl; have hcz15_2 : w13.cell? ⟨gb163, 2, none⟩ = some (.slice A0_2 l0_2.length c0_2) := (blk_cell BK163.out 2).trans rfl; have hfz15_0 := blk_frozen BK163.out 0; have hfz15_1 := blk_frozen BK163.out 1; have hfz15_2 := blk_frozen BK163.out 2; have hcz16_0 : w13.cell? ⟨gb164, 0, none⟩ = some (.bool a1_0) := (blk_cell BK164.out 0).trans rfl; have hcz16_1 : w13.cell? ⟨gb164, 1, none⟩ = some (.slice A1_1 l1_1.length c1_1) := (blk_cell BK164.out 1).trans rfl; have hcz16_2 : w13.cell? ⟨gb164, 2, none⟩ = some (.slice A1_2 l1_2.length c1_2) := (blk_cell BK164.out 2).trans rfl; have hfz16_0 := blk_frozen BK164.out 0; have hfz16_1 := blk_frozen BK164.out 1; have hfz16_2 := blk_frozen BK164.out 2) | (go_at_call 132; (with_reducible refine (spec_Cmp.calls k _ _ l0_1 _ _ l1_1 t165 _ ?side1 ?side2 ?side3 ?side4 A4.out).mono ?_); (case side1 => repeat (first | exact (Kd.C_below HR0_1.out HB.out) | (with_reducible refine Kd.C_alloc ?_ _) | (with_reducible refine Kd.C_drewN ?_ _) | (with_reducible refine Kd.C_drew ?_))); (case side2 => exact HC0_1.out); (case side3 => repeat (first | exact (Kd.C_below HR1_1.out HB.out) | (with_reducible refine Kd.C_alloc ?_ _) | (with_reducible refine Kd.C_drewN ?_ _) | (with_reducible refine Kd.C_drew ?_))); (case side4 => exact HC1_1.out); rintro e w' ⟨rfl, ⟨nd, rfl⟩⟩))
      go_ret
      exact ⟨by first | rfl | (simp [errW_none, errW_some] <;> rfl) | (simp [*, errW_none, errW_some] <;> rfl), by repeat (first | (with_reducible first | exact HB.out | apply below_alloc | apply pw_below_drewN | apply below_drew1 | refine below_set ?_ GE163.out | refine below_set ?_ GE164.out) | exact HB.out)⟩
  · rw [if_neg c3] at H
    have c3b0 : (a0_0 == a1_0) = false := by simpa using c3
    (try (have c3b1 : decide (a0_0 = a1_0) = false := by simpa using c3))
    (try (have c3b2 : (a0_0 == a1_0) = false := by simpa using c3))
    (try (have c3b3 : ¬ (a0_0 = a1_0) := by simpa using c3))
    clear c3
    obtain rfl := Option.some.inj H
    go_enter Tryz.func72, Tryz.ntmps72
    go_wp2_with (first | ((with_reducible refine gate_dst (N := 2) rfl ?_); refine box_event ?hg (N := 2) ?hd (cs := #[.bool a0_0, .slice A0_1 l0_1.length c0_1, .slice A0_2 l0_2.length c0_2]) (t := 36) ?hr ?_; (case hd => rfl); (case hg => rfl); (case hr => first | (go_simp; done) | (go_simp; rfl)); intro gb163 hg w17 hbox hb; have n0_ := Aside0.mk (below_step (by repeat (first | (with_reducible first | exact HB.out | apply below_alloc | apply pw_below_drewN | apply below_drew1) | exact HB.out)) hb); have n1_ := Aside0.mk (hbox); have n2_ := Aside0.mk ((by rw [hg]; exact (below_size (by repeat (first | (with_reducible first | exact HB.out | apply below_alloc | apply pw_below_drewN | apply below_drew1) | exact HB.out))) : w.heap.size ≤ gb163)); have n3_ := Aside0.mk ((by rw [hg]; exact (below_size (by repeat (first | (with_reducible first | exact HB.out | apply below_alloc | apply pw_below_drewN | apply below_drew1) | exact HB.out))) : w.heap.size ≤ gb163)); clear HB; have HB := n0_; have BK163 := n1_; have GW163 := n2_; have GE163 := n3_; clear n0_ n1_ n2_ n3_; clear hb hbox hg) | ((with_reducible refine gate_dst (N := 3) rfl ?_); refine box_event ?hg (N := 3) ?hd (cs := #[.bool a1_0, .slice A1_1 l1_1.length c1_1, .slice A1_2 l1_2.length c1_2]) (t := 36) ?hr ?_; (case hd => rfl); (case hg => rfl); (case hr => first | (go_simp; done) | (go_simp; rfl)); intro gb164 hg w18 hbox hb; have n0_ := Aside0.mk (blk_below (g := gb163) (o := .cells #[.bool a0_0, .slice A0_1 l0_1.length c0_1, .slice A0_2 l0_2.length c0_2] 36 (0, 0)) (by (with_reducible repeat (first | refine blk_drewN ?_ _ | refine blk_drew ?_ | refine blk_alloc ?_ _)); exact BK163.out) hb); have n1_ := Aside0.mk (below_step (by repeat (first | (with_reducible first | exact HB.out | apply below_alloc | apply pw_below_drewN | apply below_drew1 | refine below_set ?_ GE163.out) | exact HB.out)) hb); have n2_ := Aside0.mk (hbox); have n3_ := Aside0.mk ((by rw [hg]; exact (below_size (by repeat (first | (with_reducible first | exact HB.out | apply below_alloc | apply pw_below_drewN | apply below_drew1 | refine below_set ?_ GE163.out) | exact HB.out))) : w.heap.size ≤ gb164)); have n4_ := Aside0.mk ((by rw [hg]; exact (below_size (by repeat (first | (with_reducible first | exact HB.out | apply below_alloc | apply pw_below_drewN | apply below_drew1 | refine below_set ?_ GE163.out) | exact HB.out))) : w.heap.size ≤ gb164)); have n5_ := Aside0.mk ((by rw [hg]; exact Nat.ne_of_lt (blk_lt (g := gb163) (o := .cells #[.bool a0_0, .slice A0_1 l0_1.length c0_1, .slice A0_2 l0_2.length c0_2] 36 (0, 0)) (by (with_reducible repeat (first | refine blk_drewN ?_ _ | refine blk_drew ?_ | refine blk_alloc ?_ _)); exact BK163.out)) : gb163 ≠ gb164)); have n6_ := Aside0.mk ((by rw [hg]; exact Nat.ne_of_gt (blk_lt (g := gb163) (o := .cells #[.bool a0_0, .slice A0_1 l0_1.length c0_1, .slice A0_2 l0_2.length c0_2] 36 (0, 0)) (by (with_reducible repeat (first | refine blk_drewN ?_ _ | refine blk_drew ?_ | refine blk_alloc ?_ _)); exact BK163.out)) : gb164 ≠ gb163)); clear BK163; clear HB; have BK163 := n0_; have HB := n1_; have BK164 := n2_; have GW164 := n3_; have GE164 := n4_; have NB163_164 := n5_; have NB164_163 := n6_; clear n0_ n1_ n2_ n3_ n4_ n5_ n6_; clear hb hbox hg; have hnb19 := NB163_164.out; have hnc19 := NB164_163.out; have hcz20_0 : w18.cell? ⟨gb163, 0, none⟩ = some (.bool a0_0) := (blk_cell BK163.out 0).trans rfl; have hcz20_1 : w18.cell? ⟨gb163, 1, none⟩ = some (.slice A0_1 l0_1.length c0_1) := (blk_cell BK163.out 1).trans rfl; have hcz20_2 : w18.cell? ⟨gb163, 2, none⟩ = some (.slice A0_2 l0_2.length c0_2) := (blk_cell BK163.out 2).trans rfl; have hfz20_0 := blk_frozen BK163.out 0; have hfz20_1 := blk_frozen BK163.out 1; have hfz20_2 := blk_frozen BK163.out 2; have hcz21_0 : w18.cell? ⟨gb164, 0, none⟩ = some (.bool a1_0) := (blk_cell BK164.out 0).trans rfl; have hcz21_1 : w18.cell? ⟨gb164, 1, none⟩ = some (.slice A1_1 l1_1.length c1_1) := (blk_cell BK164.out 1).trans rfl; have hcz21_2 : w18.cell? ⟨gb164, 2, none⟩ = some (.slice A1_2 l1_2.length c1_2) := (blk_cell BK164.out 2).trans rfl; have hfz21_0 := blk_frozen BK164.out 0; have hfz21_1 := blk_frozen BK164.out 1; have hfz21_2 := blk_frozen BK164.out 2))
    go_ret
    exact ⟨by first | rfl | (simp [errW_none, errW_some] <;> rfl) | (simp [*, errW_none, errW_some] <;> rfl), by repeat (first | (with_reducible first | exact HB.out | apply below_alloc | apply pw_below_drewN | apply below_drew1 | refine below_set ?_ GE163.out | refine below_set ?_ GE164.out) | exact HB.out)⟩

/-! ### strconv_unhex: function 190 -/
mutual
def strconv_unhex.j0 : Nat → Int → Bool → Int → Bool → Option (Int × Bool)
  | 0, _, _, _, _ => none
  | k + 1, x2, x3, x4, x7 => if x7 = true then (some (wrap32 (x4 - 48), true)) else (if 97 ≤ x4 then (strconv_unhex.j1 k x2 x3 x4 (decide (x4 ≤ 102))) else (strconv_unhex.j1 k x2 x3 x4 false))
def strconv_unhex.j1 : Nat → Int → Bool → Int → Bool → Option (Int × Bool)
  | 0, _, _, _, _ => none
  | k + 1, x2, x3, x4, x16 => if x16 = true then (some (wrap32 ((wrap32 (x4 - 97)) + 10), true)) else (if 65 ≤ x4 then (if x4 ≤ 70 then (some (wrap32 ((wrap32 (x4 - 65)) + 10), true)) else (some (x2, x3))) else (some (x2, x3)))
end
def strconv_unhex.f (k : Nat) (a0 : Int) : Option (Int × Bool) := if 48 ≤ (wrap32 (a0)) then (strconv_unhex.j0 k 0 false (wrap32 (a0)) (decide ((wrap32 (a0)) ≤ 57))) else (strconv_unhex.j0 k 0 false (wrap32 (a0)) false)
theorem strconv_unhex.mono_l : ∀ k, (∀ y0 y1 y2 y3, LeO (strconv_unhex.j0 k y0 y1 y2 y3) (strconv_unhex.j0 (k + 1) y0 y1 y2 y3)) ∧ (∀ y0 y1 y2 y3, LeO (strconv_unhex.j1 k y0 y1 y2 y3) (strconv_unhex.j1 (k + 1) y0 y1 y2 y3))
  | 0 => ⟨fun _ _ _ _ r h => by simp [strconv_unhex.j0] at h, fun _ _ _ _ r h => by simp [strconv_unhex.j1] at h⟩
  | k + 1 => by
    obtain ⟨ih0, ih1⟩ := strconv_unhex.mono_l k
    refine ⟨?_, ?_⟩
    · intro y0 y1 y2 y3
      unfold strconv_unhex.j0
      repeat' first
      | (with_reducible exact ih0 _ _ _ _)
      | (with_reducible exact ih1 _ _ _ _)
      | (with_reducible exact LeO.refl _)
      | (with_reducible exact LeO.none _)
      | (with_reducible refine LeO.ite ?_ ?_)
      | (with_reducible refine LeO.bind ?_ (fun _ => ?_))
      | exact ih0 _ _ _ _
      | exact ih1 _ _ _ _
      | exact LeO.none _
      | refine LeO.ite ?_ ?_
      | refine LeO.bind ?_ (fun _ => ?_)
    · intro y0 y1 y2 y3
      unfold strconv_unhex.j1
      repeat' first
      | (with_reducible exact ih0 _ _ _ _)
      | (with_reducible exact ih1 _ _ _ _)
      | (with_reducible exact LeO.refl _)
      | (with_reducible exact LeO.none _)
      | (with_reducible refine LeO.ite ?_ ?_)
      | (with_reducible refine LeO.bind ?_ (fun _ => ?_))
      | exact ih0 _ _ _ _
      | exact ih1 _ _ _ _
      | exact LeO.none _
      | refine LeO.ite ?_ ?_
      | refine LeO.bind ?_ (fun _ => ?_)
theorem strconv_unhex.mono : ∀ a0 k, LeO (strconv_unhex.f k a0) (strconv_unhex.f (k + 1) a0) := by
  intro a0 k
  obtain ⟨ih0, ih1⟩ := strconv_unhex.mono_l k
  unfold strconv_unhex.f
  repeat' first
      | (with_reducible exact ih0 _ _ _ _)
      | (with_reducible exact ih1 _ _ _ _)
      | (with_reducible exact LeO.refl _)
      | (with_reducible exact LeO.none _)
      | (with_reducible refine LeO.ite ?_ ?_)
      | (with_reducible refine LeO.bind ?_ (fun _ => ?_))
      | exact ih0 _ _ _ _
      | exact ih1 _ _ _ _
      | exact LeO.none _
      | refine LeO.ite ?_ ?_
      | refine LeO.bind ?_ (fun _ => ?_)
set_option maxHeartbeats 8000000 in
set_option maxRecDepth 100000 in
theorem strconv_unhex.calls (k : Nat) (a0 : Int) (r1 : Int) (r2 : Bool) (w : World) (h : strconv_unhex.f k a0 = some (r1, r2)) :
    Calls Tryz.prog 190 #[.int .u8 a0] w fun e w' => e = .returned (.tuple #[.int .i32 r1, .bool r2]) ∧ Drawn0 w w' := by
  have H : (if 48 ≤ (wrap32 (a0)) then (strconv_unhex.j0 k 0 false (wrap32 (a0)) (decide ((wrap32 (a0)) ≤ 57))) else (strconv_unhex.j0 k 0 false (wrap32 (a0)) false)) = some (r1, r2) := h
  clear h
  have HC2 := Aside0.mk H
  clear H
  go_enter Tryz.func190, Tryz.ntmps190
  go_upto_region 2 with (fail)
  go_cut [7] (fun v7 wc => ∃ (kq : Nat) (x7_1 : Bool), v7 = .bool x7_1 ∧ Aside0 (strconv_unhex.j0 kq 0 false (wrap32 (a0)) x7_1 = some (r1, r2)) ∧ Aside0 (kq ≤ k) ∧ Drawn0 w wc)
  case first =>
    have H := HC2.out
    clear HC2
    by_cases c3 : 48 ≤ (wrap32 (a0))
    · rw [if_pos c3] at H
      have c3b0 : decide (48 ≤ (wrap32 (a0))) = true := decide_eq_true c3
      clear c3
      (first | rw [c3b0] | (simp only [i64_w, i32_w]; rw [c3b0]) | skip)
      have H' := Aside0.mk H
      clear H
      go_wp2
      go_meet
      case rel => exact ⟨_, (decide ((wrap32 (a0)) ≤ 57)), (by first | rfl | (simp; done) | (simp [*]; done)), H', ⟨by first | omega | exact Nat.le_refl _⟩, by repeat (first | exact Drawn0.refl _ | apply Drawn0.step)⟩
    · rw [if_neg c3] at H
      have c3b0 : decide (48 ≤ (wrap32 (a0))) = false := decide_eq_false c3
      clear c3
      (first | rw [c3b0] | (simp only [i64_w, i32_w]; rw [c3b0]) | skip)
      have H' := Aside0.mk H
      clear H
      go_wp2
      go_meet
      case rel => exact ⟨_, (false), (by first | rfl | (simp; done) | (simp [*]; done)), H', ⟨by first | omega | exact Nat.le_refl _⟩, by repeat (first | exact Drawn0.refl _ | apply Drawn0.step)⟩
  case rest =>
    clear HC2
    try clear c1
    try clear p2
    try clear c3
    try clear c3b0
    try clear p3
    obtain ⟨kq, x7_1, rfl, HA, HJ1, ⟨mc1, rfl⟩⟩ := hcut
    cases kq with
    | zero => exact absurd HA.out (by simp [strconv_unhex.j0])
    | succ kj1 =>
      have H := HA.out
      clear HA
      simp only [strconv_unhex.j0] at H
      by_cases c4 : x7_1 = true
      · subst c4
        have H1 : (some (wrap32 ((wrap32 (a0)) - 48), true)) = some (r1, r2) := by rw [if_pos rfl] at H; exact H
        clear H
        have H := H1
        clear H1
        simp only [Option.some.injEq, Prod.mk.injEq] at H
        obtain ⟨rfl, rfl⟩ := H
        go_wp2
        go_ret2
        exact ⟨by first | rfl | (simp; done) | (simp [*]; done), by repeat (first | exact Drawn0.refl _ | apply Drawn0.step)⟩
      · replace c4 := Bool.eq_false_iff.mpr c4
        subst c4
        have H1 : (if 97 ≤ (wrap32 (a0)) then (strconv_unhex.j1 kj1 0 false (wrap32 (a0)) (decide ((wrap32 (a0)) ≤ 102))) else (strconv_unhex.j1 kj1 0 false (wrap32 (a0)) false)) = some (r1, r2) := by rw [if_neg (show ¬ (false = true) by decide)] at H; exact H
        clear H
        have H := H1
        clear H1
        have HC5 := Aside0.mk H
        clear H
        go_upto_region 4 with (fail)
        go_cut [16] (fun v16 wc => ∃ (kq : Nat) (x16_4 : Bool), v16 = .bool x16_4 ∧ Aside0 (strconv_unhex.j1 kq 0 false (wrap32 (a0)) x16_4 = some (r1, r2)) ∧ Aside0 (kq ≤ kj1) ∧ Drawn0 w wc)
        case first =>
          have H := HC5.out
          clear HC5
          by_cases c6 : 97 ≤ (wrap32 (a0))
          · rw [if_pos c6] at H
            have c6b0 : decide (97 ≤ (wrap32 (a0))) = true := decide_eq_true c6
            clear c6
            (first | rw [c6b0] | (simp only [i64_w, i32_w]; rw [c6b0]) | skip)
            have H' := Aside0.mk H
            clear H
            go_wp2
            go_meet
            case rel => exact ⟨_, (decide ((wrap32 (a0)) ≤ 102)), (by first | rfl | (simp; done) | (simp [*]; done)), H', ⟨by have := HJ1.out; first | omega | exact Nat.le_refl _⟩, by repeat (first | exact Drawn0.refl _ | apply Drawn0.step)⟩
          · rw [if_neg c6] at H
            have c6b0 : decide (97 ≤ (wrap32 (a0))) = false := decide_eq_false c6
            clear c6
            (first | rw [c6b0] | (simp only [i64_w, i32_w]; rw [c6b0]) | skip)
            have H' := Aside0.mk H
            clear H
            go_wp2
            go_meet
            case rel => exact ⟨_, (false), (by first | rfl | (simp; done) | (simp [*]; done)), H', ⟨by have := HJ1.out; first | omega | exact Nat.le_refl _⟩, by repeat (first | exact Drawn0.refl _ | apply Drawn0.step)⟩
        case rest =>
          clear HC5
          try clear c1
          try clear p2
          try clear c3
          try clear c3b0
          try clear p3
          try clear c4
          try clear c6
          try clear c6b0
          try clear p2
          try clear p3
          obtain ⟨kq, x16_4, rfl, HA, HJ4, ⟨mc4, rfl⟩⟩ := hcut
          cases kq with
          | zero => exact absurd HA.out (by simp [strconv_unhex.j1])
          | succ kj4 =>
            have H := HA.out
            clear HA
            simp only [strconv_unhex.j1] at H
            by_cases c7 : x16_4 = true
            · subst c7
              have H1 : (some (wrap32 ((wrap32 ((wrap32 (a0)) - 97)) + 10), true)) = some (r1, r2) := by rw [if_pos rfl] at H; exact H
              clear H
              have H := H1
              clear H1
              simp only [Option.some.injEq, Prod.mk.injEq] at H
              obtain ⟨rfl, rfl⟩ := H
              go_wp2
              go_ret2
              exact ⟨by first | rfl | (simp; done) | (simp [*]; done), by repeat (first | exact Drawn0.refl _ | apply Drawn0.step)⟩
            · replace c7 := Bool.eq_false_iff.mpr c7
              subst c7
              have H1 : (if 65 ≤ (wrap32 (a0)) then (if (wrap32 (a0)) ≤ 70 then (some (wrap32 ((wrap32 ((wrap32 (a0)) - 65)) + 10), true)) else (some (0, false))) else (some (0, false))) = some (r1, r2) := by rw [if_neg (show ¬ (false = true) by decide)] at H; exact H
              clear H
              have H := H1
              clear H1
              by_cases c8 : 65 ≤ (wrap32 (a0))
              · rw [if_pos c8] at H
                have c8b0 : decide (65 ≤ (wrap32 (a0))) = true := decide_eq_true c8
                clear c8
                by_cases c9 : (wrap32 (a0)) ≤ 70
                · rw [if_pos c9] at H
                  have c9b0 : decide ((wrap32 (a0)) ≤ 70) = true := decide_eq_true c9
                  clear c9
                  simp only [Option.some.injEq, Prod.mk.injEq] at H
                  obtain ⟨rfl, rfl⟩ := H
                  go_wp2
                  go_ret2
                  exact ⟨by first | rfl | (simp; done) | (simp [*]; done), by repeat (first | exact Drawn0.refl _ | apply Drawn0.step)⟩
                · rw [if_neg c9] at H
                  have c9b0 : decide ((wrap32 (a0)) ≤ 70) = false := decide_eq_false c9
                  clear c9
                  simp only [Option.some.injEq, Prod.mk.injEq] at H
                  obtain ⟨rfl, rfl⟩ := H
                  go_wp2
                  go_ret2
                  exact ⟨by first | rfl | (simp; done) | (simp [*]; done), by repeat (first | exact Drawn0.refl _ | apply Drawn0.step)⟩
              · rw [if_neg c8] at H
                have c8b0 : decide (65 ≤ (wrap32 (a0))) = false := decide_eq_false c8
                clear c8
                simp only [Option.some.injEq, Prod.mk.injEq] at H
                obtain ⟨rfl, rfl⟩ := H
                go_wp2
                go_ret2
                exact ⟨by first | rfl | (simp; done) | (simp [*]; done), by repeat (first | exact Drawn0.refl _ | apply Drawn0.step)⟩

/-! ### utf8_ValidRune: function 191 -/
def utf8_ValidRune.j0 : Nat → Int → Bool → Option (Bool)
  | 0, _, _ => none
  | k + 1, x0, x3 => if x3 = true then (some true) else (if 57343 < x0 then (if x0 ≤ 1114111 then (some true) else (some false)) else (some false))
def utf8_ValidRune.f (k : Nat) (a0 : Int) : Option (Bool) := if 0 ≤ a0 then (utf8_ValidRune.j0 k a0 (decide (a0 < 55296))) else (utf8_ValidRune.j0 k a0 false)
theorem utf8_ValidRune.mono_l : ∀ k, (∀ y0 y1, LeO (utf8_ValidRune.j0 k y0 y1) (utf8_ValidRune.j0 (k + 1) y0 y1))
  | 0 => fun _ _ r h => by simp [utf8_ValidRune.j0] at h
  | k + 1 => by
    have ih0 := utf8_ValidRune.mono_l k
    · intro y0 y1
      unfold utf8_ValidRune.j0
      repeat' first
      | (with_reducible exact ih0 _ _)
      | (with_reducible exact LeO.refl _)
      | (with_reducible exact LeO.none _)
      | (with_reducible refine LeO.ite ?_ ?_)
      | (with_reducible refine LeO.bind ?_ (fun _ => ?_))
      | exact ih0 _ _
      | exact LeO.none _
      | refine LeO.ite ?_ ?_
      | refine LeO.bind ?_ (fun _ => ?_)
theorem utf8_ValidRune.mono : ∀ a0 k, LeO (utf8_ValidRune.f k a0) (utf8_ValidRune.f (k + 1) a0) := by
  intro a0 k
  have ih0 := utf8_ValidRune.mono_l k
  unfold utf8_ValidRune.f
  repeat' first
      | (with_reducible exact ih0 _ _)
      | (with_reducible exact LeO.refl _)
      | (with_reducible exact LeO.none _)
      | (with_reducible refine LeO.ite ?_ ?_)
      | (with_reducible refine LeO.bind ?_ (fun _ => ?_))
      | exact ih0 _ _
      | exact LeO.none _
      | refine LeO.ite ?_ ?_
      | refine LeO.bind ?_ (fun _ => ?_)
set_option maxHeartbeats 8000000 in
set_option maxRecDepth 100000 in
theorem utf8_ValidRune.calls (k : Nat) (a0 : Int) (r : Bool) (w : World) (h : utf8_ValidRune.f k a0 = some r) :
    Calls Tryz.prog 191 #[.int .i32 a0] w fun e w' => e = .returned (.bool r) ∧ Drawn0 w w' := by
  have H : (if 0 ≤ a0 then (utf8_ValidRune.j0 k a0 (decide (a0 < 55296))) else (utf8_ValidRune.j0 k a0 false)) = some r := h
  clear h
  have HC2 := Aside0.mk H
  clear H
  go_enter Tryz.func191, Tryz.ntmps191
  go_upto_region 1 with (fail)
  go_cut [3] (fun v3 wc => ∃ (kq : Nat) (x3_1 : Bool), v3 = .bool x3_1 ∧ Aside0 (utf8_ValidRune.j0 kq a0 x3_1 = some r) ∧ Aside0 (kq ≤ k) ∧ Drawn0 w wc)
  case first =>
    have H := HC2.out
    clear HC2
    by_cases c3 : 0 ≤ a0
    · rw [if_pos c3] at H
      have c3b0 : decide (0 ≤ a0) = true := decide_eq_true c3
      clear c3
      (first | rw [c3b0] | (simp only [i64_w, i32_w]; rw [c3b0]) | skip)
      have H' := Aside0.mk H
      clear H
      go_wp2
      go_meet
      case rel => exact ⟨_, (decide (a0 < 55296)), (by first | rfl | (simp; done) | (simp [*]; done)), H', ⟨by first | omega | exact Nat.le_refl _⟩, by repeat (first | exact Drawn0.refl _ | apply Drawn0.step)⟩
    · rw [if_neg c3] at H
      have c3b0 : decide (0 ≤ a0) = false := decide_eq_false c3
      clear c3
      (first | rw [c3b0] | (simp only [i64_w, i32_w]; rw [c3b0]) | skip)
      have H' := Aside0.mk H
      clear H
      go_wp2
      go_meet
      case rel => exact ⟨_, (false), (by first | rfl | (simp; done) | (simp [*]; done)), H', ⟨by first | omega | exact Nat.le_refl _⟩, by repeat (first | exact Drawn0.refl _ | apply Drawn0.step)⟩
  case rest =>
    clear HC2
    try clear c1
    try clear p2
    try clear c3
    try clear c3b0
    obtain ⟨kq, x3_1, rfl, HA, HJ1, ⟨mc1, rfl⟩⟩ := hcut
    cases kq with
    | zero => exact absurd HA.out (by simp [utf8_ValidRune.j0])
    | succ kj1 =>
      have H := HA.out
      clear HA
      simp only [utf8_ValidRune.j0] at H
      by_cases c4 : x3_1 = true
      · subst c4
        have H1 : (some true) = some r := by rw [if_pos rfl] at H; exact H
        clear H
        have H := H1
        clear H1
        obtain rfl := Option.some.inj H
        go_wp2
        go_ret
        exact ⟨by first | rfl | (simp; done) | (simp [*]; done), by repeat (first | exact Drawn0.refl _ | apply Drawn0.step)⟩
      · replace c4 := Bool.eq_false_iff.mpr c4
        subst c4
        have H1 : (if 57343 < a0 then (if a0 ≤ 1114111 then (some true) else (some false)) else (some false)) = some r := by rw [if_neg (show ¬ (false = true) by decide)] at H; exact H
        clear H
        have H := H1
        clear H1
        by_cases c5 : 57343 < a0
        · rw [if_pos c5] at H
          have c5b0 : decide (57343 < a0) = true := decide_eq_true c5
          clear c5
          by_cases c6 : a0 ≤ 1114111
          · rw [if_pos c6] at H
            have c6b0 : decide (a0 ≤ 1114111) = true := decide_eq_true c6
            clear c6
            obtain rfl := Option.some.inj H
            go_wp2
            go_ret
            exact ⟨by first | rfl | (simp; done) | (simp [*]; done), by repeat (first | exact Drawn0.refl _ | apply Drawn0.step)⟩
          · rw [if_neg c6] at H
            have c6b0 : decide (a0 ≤ 1114111) = false := decide_eq_false c6
            clear c6
            obtain rfl := Option.some.inj H
            go_wp2
            go_ret
            exact ⟨by first | rfl | (simp; done) | (simp [*]; done), by repeat (first | exact Drawn0.refl _ | apply Drawn0.step)⟩
        · rw [if_neg c5] at H
          have c5b0 : decide (57343 < a0) = false := decide_eq_false c5
          clear c5
          obtain rfl := Option.some.inj H
          go_wp2
          go_ret
          exact ⟨by first | rfl | (simp; done) | (simp [*]; done), by repeat (first | exact Drawn0.refl _ | apply Drawn0.step)⟩

/-- THE ONE PURE STATEMENT of utf8_ValidRune: yours. -/
def utf8_ValidRune.Pure : Prop := ∀ (a0 : Int), (Lit.int .i32 a0).wf = true → ∃ k, utf8_ValidRune.f k a0 = some true
theorem utf8_ValidRune.walk (P : utf8_ValidRune.Pure) (a0 : Int) (w : World) (w0 : (Lit.int .i32 a0).wf = true) :
    Calls Tryz.prog 191 #[.int .i32 a0] w fun e w' => e = .returned (.bool true) ∧ Below w.heap.size w w' := by
  obtain ⟨k, h⟩ := P a0 w0
  refine (utf8_ValidRune.calls k a0 true w h).mono ?_
  rintro e w' ⟨rfl, hd⟩
  exact ⟨rfl, hd.below⟩

/-! ### impl_operator: function 10 -/
def impl_operator.f (a0 : Int) : Option (Int × Bool) := (some (([12, 13, 14, 15, 26, 16, 17, 18, 19, 22, 34, 35] : List Int) : List Int)).bind fun y167 => (if a0 < 0 then (some (0, false)) else (if a0 ≥ (y167.length : Int) then (some (0, false)) else (if 0 ≤ a0 then (if a0 < (y167.length : Int) then (some (rd y167 a0, true)) else (none)) else (none))))
set_option maxHeartbeats 8000000 in
set_option maxRecDepth 100000 in
theorem impl_operator.calls (a0 : Int) (r1 : Int) (r2 : Bool) (w : World) (h : impl_operator.f a0 = some (r1, r2)) :
    Calls Tryz.prog 10 #[.int .i64 a0] w fun e w' => e = .returned (.tuple #[.int .i64 r1, .bool r2]) ∧ Below w.heap.size w w' := by
  have HB := Aside0.mk (Below.refl w.heap.size w)
  have H : ((some (([12, 13, 14, 15, 26, 16, 17, 18, 19, 22, 34, 35] : List Int) : List Int)).bind fun y167 => (if a0 < 0 then (some (0, false)) else (if a0 ≥ (y167.length : Int) then (some (0, false)) else (if 0 ≤ a0 then (if a0 < (y167.length : Int) then (some (rd y167 a0, true)) else (none)) else (none))))) = some (r1, r2) := h
  clear h
  obtain ⟨y167, hy167⟩ : ∃ y_ : List Int, y_ = (([12, 13, 14, 15, 26, 16, 17, 18, 19, 22, 34, 35] : List Int)) := ⟨_, rfl⟩
  replace H : (if a0 < 0 then (some (0, false)) else (if a0 ≥ (y167.length : Int) then (some (0, false)) else (if 0 ≤ a0 then (if a0 < (y167.length : Int) then (some (rd y167 a0, true)) else (none)) else (none)))) = some (r1, r2) := by first | (rw [hy167]; with_reducible exact H) | (have H2_ := (Option.bind_some _ _).symm.trans H; rw [hy167]; with_reducible exact H2_) | (have H2_ := (Option.bind_some _ _).symm.trans H; with_reducible exact H2_) | with_reducible exact H | (rw [hy167]; exact H) | exact H
  have Ny167 := Aside0.mk hy167
  clear hy167
  by_cases c2 : a0 < 0
  · rw [if_pos c2] at H
    have c2b0 : decide (a0 < 0) = true := decide_eq_true c2
    clear c2
    simp only [Option.some.injEq, Prod.mk.injEq] at H
    obtain ⟨rfl, rfl⟩ := H
    go_enter Tryz.func10, Tryz.ntmps10
    go_wp2_with (first | ((with_reducible refine gate_dst (N := 5) rfl ?_); (try (refine gate_guard (by rfl) ?_; dsimp only)); refine Kd.R_lit (Kd.int .i64) _ 39 ?hg (N := 5) ?hd (xs := ([12, 13, 14, 15, 26, 16, 17, 18, 19, 22, 34, 35] : List Int)) (inner := [.int .i64 12, .int .i64 13, .int .i64 14, .int .i64 15, .int .i64 26, .int .i64 16, .int .i64 17, .int .i64 18, .int .i64 19, .int .i64 22, .int .i64 34, .int .i64 35]) (ok := fun _ => True) (okp := fun _ => True) ?hr ?hp (fun _ hk => hk) trivial (Below.refl _ _) (Nat.le_refl _) (by simp) ?_; (case hd => rfl); (case hg => rfl); (case hr => first | (go_simp; done) | (go_simp; rfl)); (case hp => exact (Reps.one (show Kd.M (Kd.int .i64) _ _ _ 12 [.int .i64 12] from rfl) (Reps.one (show Kd.M (Kd.int .i64) _ _ _ 13 [.int .i64 13] from rfl) (Reps.one (show Kd.M (Kd.int .i64) _ _ _ 14 [.int .i64 14] from rfl) (Reps.one (show Kd.M (Kd.int .i64) _ _ _ 15 [.int .i64 15] from rfl) (Reps.one (show Kd.M (Kd.int .i64) _ _ _ 26 [.int .i64 26] from rfl) (Reps.one (show Kd.M (Kd.int .i64) _ _ _ 16 [.int .i64 16] from rfl) (Reps.one (show Kd.M (Kd.int .i64) _ _ _ 17 [.int .i64 17] from rfl) (Reps.one (show Kd.M (Kd.int .i64) _ _ _ 18 [.int .i64 18] from rfl) (Reps.one (show Kd.M (Kd.int .i64) _ _ _ 19 [.int .i64 19] from rfl) (Reps.one (show Kd.M (Kd.int .i64) _ _ _ 22 [.int .i64 22] from rfl) (Reps.one (show Kd.M (Kd.int .i64) _ _ _ 34 [.int .i64 34] from rfl) (Reps.one (show Kd.M (Kd.int .i64) _ _ _ 35 [.int .i64 35] from rfl) (Reps.none _ _)))))))))))))); intro v168 w3 ho4 hb hg_ hnew_; clear hg_ hnew_; (first | rw [← Ny167.out] at ho4 | (simp only [Int.reduceToNat] at ho4; rw [← Ny167.out] at ho4)); have n0_ := Aside0.mk (Kd.R_lower ho4 (below_size (by repeat (first | (with_reducible first | exact HB.out | apply below_alloc | apply pw_below_drewN | apply below_drew1) | exact HB.out)))); have n1_ := Aside0.mk (below_step (by repeat (first | (with_reducible first | exact HB.out | apply below_alloc | apply pw_below_drewN | apply below_drew1) | exact HB.out)) hb); clear HB; have HO169 := n0_; have HB := n1_; clear n0_ n1_; clear hb ho4))
    go_ret2
    exact ⟨by first | rfl | (simp [errW_none, errW_some] <;> rfl) | (simp [*, errW_none, errW_some] <;> rfl), by repeat (first | (with_reducible first | exact HB.out | apply below_alloc | apply pw_below_drewN | apply below_drew1) | exact HB.out)⟩
  · rw [if_neg c2] at H
    have c2b0 : decide (a0 < 0) = false := decide_eq_false c2
    clear c2
    by_cases c5 : a0 ≥ (y167.length : Int)
    · rw [if_pos c5] at H
      have c5b0 : decide ((y167.length : Int) ≤ a0) = true := decide_eq_true c5
      clear c5
      simp only [Option.some.injEq, Prod.mk.injEq] at H
      obtain ⟨rfl, rfl⟩ := H
      go_enter Tryz.func10, Tryz.ntmps10
      go_wp2_with (first | ((with_reducible refine gate_dst (N := 5) rfl ?_); (try (refine gate_guard (by rfl) ?_; dsimp only)); refine Kd.R_lit (Kd.int .i64) _ 39 ?hg (N := 5) ?hd (xs := ([12, 13, 14, 15, 26, 16, 17, 18, 19, 22, 34, 35] : List Int)) (inner := [.int .i64 12, .int .i64 13, .int .i64 14, .int .i64 15, .int .i64 26, .int .i64 16, .int .i64 17, .int .i64 18, .int .i64 19, .int .i64 22, .int .i64 34, .int .i64 35]) (ok := fun _ => True) (okp := fun _ => True) ?hr ?hp (fun _ hk => hk) trivial (Below.refl _ _) (Nat.le_refl _) (by simp) ?_; (case hd => rfl); (case hg => rfl); (case hr => first | (go_simp; done) | (go_simp; rfl)); (case hp => exact (Reps.one (show Kd.M (Kd.int .i64) _ _ _ 12 [.int .i64 12] from rfl) (Reps.one (show Kd.M (Kd.int .i64) _ _ _ 13 [.int .i64 13] from rfl) (Reps.one (show Kd.M (Kd.int .i64) _ _ _ 14 [.int .i64 14] from rfl) (Reps.one (show Kd.M (Kd.int .i64) _ _ _ 15 [.int .i64 15] from rfl) (Reps.one (show Kd.M (Kd.int .i64) _ _ _ 26 [.int .i64 26] from rfl) (Reps.one (show Kd.M (Kd.int .i64) _ _ _ 16 [.int .i64 16] from rfl) (Reps.one (show Kd.M (Kd.int .i64) _ _ _ 17 [.int .i64 17] from rfl) (Reps.one (show Kd.M (Kd.int .i64) _ _ _ 18 [.int .i64 18] from rfl) (Reps.one (show Kd.M (Kd.int .i64) _ _ _ 19 [.int .i64 19] from rfl) (Reps.one (show Kd.M (Kd.int .i64) _ _ _ 22 [.int .i64 22] from rfl) (Reps.one (show Kd.M (Kd.int .i64) _ _ _ 34 [.int .i64 34] from rfl) (Reps.one (show Kd.M (Kd.int .i64) _ _ _ 35 [.int .i64 35] from rfl) (Reps.none _ _)))))))))))))); intro v168 w6 ho7 hb hg_ hnew_; clear hg_ hnew_; (first | rw [← Ny167.out] at ho7 | (simp only [Int.reduceToNat] at ho7; rw [← Ny167.out] at ho7)); have n0_ := Aside0.mk (Kd.R_lower ho7 (below_size (by repeat (first | (with_reducible first | exact HB.out | apply below_alloc | apply pw_below_drewN | apply below_drew1) | exact HB.out)))); have n1_ := Aside0.mk (below_step (by repeat (first | (with_reducible first | exact HB.out | apply below_alloc | apply pw_below_drewN | apply below_drew1) | exact HB.out)) hb); clear HB; have HO169 := n0_; have HB := n1_; clear n0_ n1_; clear hb ho7; obtain ⟨Ao8, co8, eo8⟩ := Kd.R_slice HO169.out; subst eo8))
      go_ret2
      exact ⟨by first | rfl | (simp [errW_none, errW_some] <;> rfl) | (simp [*, errW_none, errW_some] <;> rfl), by repeat (first | (with_reducible first | exact HB.out | apply below_alloc | apply pw_below_drewN | apply below_drew1) | exact HB.out)⟩
    · rw [if_neg c5] at H
      have c5b0 : decide ((y167.length : Int) ≤ a0) = false := decide_eq_false c5
      clear c5
      by_cases c9 : 0 ≤ a0
      · rw [if_pos c9] at H
        have c9b0 : decide (0 ≤ a0) = true := decide_eq_true c9
        clear c9
        by_cases c10 : a0 < (y167.length : Int)
        · rw [if_pos c10] at H
          have c10b0 : decide (a0 < (y167.length : Int)) = true := decide_eq_true c10
          clear c10
          simp only [Option.some.injEq, Prod.mk.injEq] at H
          obtain ⟨rfl, rfl⟩ := H
          go_enter Tryz.func10, Tryz.ntmps10
          go_wp2_with (first | ((with_reducible refine gate_dst (N := 5) rfl ?_); (try (refine gate_guard (by rfl) ?_; dsimp only)); refine Kd.R_lit (Kd.int .i64) _ 39 ?hg (N := 5) ?hd (xs := ([12, 13, 14, 15, 26, 16, 17, 18, 19, 22, 34, 35] : List Int)) (inner := [.int .i64 12, .int .i64 13, .int .i64 14, .int .i64 15, .int .i64 26, .int .i64 16, .int .i64 17, .int .i64 18, .int .i64 19, .int .i64 22, .int .i64 34, .int .i64 35]) (ok := fun _ => True) (okp := fun _ => True) ?hr ?hp (fun _ hk => hk) trivial (Below.refl _ _) (Nat.le_refl _) (by simp) ?_; (case hd => rfl); (case hg => rfl); (case hr => first | (go_simp; done) | (go_simp; rfl)); (case hp => exact (Reps.one (show Kd.M (Kd.int .i64) _ _ _ 12 [.int .i64 12] from rfl) (Reps.one (show Kd.M (Kd.int .i64) _ _ _ 13 [.int .i64 13] from rfl) (Reps.one (show Kd.M (Kd.int .i64) _ _ _ 14 [.int .i64 14] from rfl) (Reps.one (show Kd.M (Kd.int .i64) _ _ _ 15 [.int .i64 15] from rfl) (Reps.one (show Kd.M (Kd.int .i64) _ _ _ 26 [.int .i64 26] from rfl) (Reps.one (show Kd.M (Kd.int .i64) _ _ _ 16 [.int .i64 16] from rfl) (Reps.one (show Kd.M (Kd.int .i64) _ _ _ 17 [.int .i64 17] from rfl) (Reps.one (show Kd.M (Kd.int .i64) _ _ _ 18 [.int .i64 18] from rfl) (Reps.one (show Kd.M (Kd.int .i64) _ _ _ 19 [.int .i64 19] from rfl) (Reps.one (show Kd.M (Kd.int .i64) _ _ _ 22 [.int .i64 22] from rfl) (Reps.one (show Kd.M (Kd.int .i64) _ _ _ 34 [.int .i64 34] from rfl) (Reps.one (show Kd.M (Kd.int .i64) _ _ _ 35 [.int .i64 35] from rfl) (Reps.none _ _)))))))))))))); intro v168 w11 ho12 hb hg_ hnew_; clear hg_ hnew_; (first | rw [← Ny167.out] at ho12 | (simp only [Int.reduceToNat] at ho12; rw [← Ny167.out] at ho12)); have n0_ := Aside0.mk (Kd.R_lower ho12 (below_size (by repeat (first | (with_reducible first | exact HB.out | apply below_alloc | apply pw_below_drewN | apply below_drew1) | exact HB.out)))); have n1_ := Aside0.mk (below_step (by repeat (first | (with_reducible first | exact HB.out | apply below_alloc | apply pw_below_drewN | apply below_drew1) | exact HB.out)) hb); clear HB; have HO169 := n0_; have HB := n1_; clear n0_ n1_; clear hb ho12; obtain ⟨Ao13, co13, eo13⟩ := Kd.R_slice HO169.out; subst eo13; have p170 : 0 ≤ (a0 : Int) := of_decide_eq_true (by first | (with_reducible assumption) | assumption); have q170 : a0 < (y167.length : Int) := of_decide_eq_true (by first | (with_reducible assumption) | assumption); obtain ⟨ad170, e170, hx170_0⟩ := Kd.at_int (Kd.R_reads' HO169.out).2.2 a0 p170 q170; cases e170; replace p170 := eq_true p170; replace q170 := eq_true q170))
          go_ret2
          exact ⟨by first | rfl | (simp [errW_none, errW_some] <;> rfl) | (simp [*, errW_none, errW_some] <;> rfl), by repeat (first | (with_reducible first | exact HB.out | apply below_alloc | apply pw_below_drewN | apply below_drew1) | exact HB.out)⟩
        · rw [if_neg c10] at H
          exact absurd H (by simp)
      · rw [if_neg c9] at H
        exact absurd H (by simp)

/-! ### impl_comparison: function 14 -/
def impl_comparison.f (a0 : Int) : Option (Int × Bool) := (some (([39, 44, 40, 45, 41, 46] : List Int) : List Int)).bind fun y171 => (if a0 < 0 then (some (0, false)) else (if a0 ≥ (y171.length : Int) then (some (0, false)) else (if 0 ≤ a0 then (if a0 < (y171.length : Int) then (some (rd y171 a0, true)) else (none)) else (none))))
set_option maxHeartbeats 8000000 in
set_option maxRecDepth 100000 in
theorem impl_comparison.calls (a0 : Int) (r1 : Int) (r2 : Bool) (w : World) (h : impl_comparison.f a0 = some (r1, r2)) :
    Calls Tryz.prog 14 #[.int .i64 a0] w fun e w' => e = .returned (.tuple #[.int .i64 r1, .bool r2]) ∧ Below w.heap.size w w' := by
  have HB := Aside0.mk (Below.refl w.heap.size w)
  have H : ((some (([39, 44, 40, 45, 41, 46] : List Int) : List Int)).bind fun y171 => (if a0 < 0 then (some (0, false)) else (if a0 ≥ (y171.length : Int) then (some (0, false)) else (if 0 ≤ a0 then (if a0 < (y171.length : Int) then (some (rd y171 a0, true)) else (none)) else (none))))) = some (r1, r2) := h
  clear h
  obtain ⟨y171, hy171⟩ : ∃ y_ : List Int, y_ = (([39, 44, 40, 45, 41, 46] : List Int)) := ⟨_, rfl⟩
  replace H : (if a0 < 0 then (some (0, false)) else (if a0 ≥ (y171.length : Int) then (some (0, false)) else (if 0 ≤ a0 then (if a0 < (y171.length : Int) then (some (rd y171 a0, true)) else (none)) else (none)))) = some (r1, r2) := by first | (rw [hy171]; with_reducible exact H) | (have H2_ := (Option.bind_some _ _).symm.trans H; rw [hy171]; with_reducible exact H2_) | (have H2_ := (Option.bind_some _ _).symm.trans H; with_reducible exact H2_) | with_reducible exact H | (rw [hy171]; exact H) | exact H
  have Ny171 := Aside0.mk hy171
  clear hy171
  by_cases c2 : a0 < 0
  · rw [if_pos c2] at H
    have c2b0 : decide (a0 < 0) = true := decide_eq_true c2
    clear c2
    simp only [Option.some.injEq, Prod.mk.injEq] at H
    obtain ⟨rfl, rfl⟩ := H
    go_enter Tryz.func14, Tryz.ntmps14
    go_wp2_with (first | ((with_reducible refine gate_dst (N := 5) rfl ?_); (try (refine gate_guard (by rfl) ?_; dsimp only)); refine Kd.R_lit (Kd.int .i64) _ 39 ?hg (N := 5) ?hd (xs := ([39, 44, 40, 45, 41, 46] : List Int)) (inner := [.int .i64 39, .int .i64 44, .int .i64 40, .int .i64 45, .int .i64 41, .int .i64 46]) (ok := fun _ => True) (okp := fun _ => True) ?hr ?hp (fun _ hk => hk) trivial (Below.refl _ _) (Nat.le_refl _) (by simp) ?_; (case hd => rfl); (case hg => rfl); (case hr => first | (go_simp; done) | (go_simp; rfl)); (case hp => exact (Reps.one (show Kd.M (Kd.int .i64) _ _ _ 39 [.int .i64 39] from rfl) (Reps.one (show Kd.M (Kd.int .i64) _ _ _ 44 [.int .i64 44] from rfl) (Reps.one (show Kd.M (Kd.int .i64) _ _ _ 40 [.int .i64 40] from rfl) (Reps.one (show Kd.M (Kd.int .i64) _ _ _ 45 [.int .i64 45] from rfl) (Reps.one (show Kd.M (Kd.int .i64) _ _ _ 41 [.int .i64 41] from rfl) (Reps.one (show Kd.M (Kd.int .i64) _ _ _ 46 [.int .i64 46] from rfl) (Reps.none _ _)))))))); intro v172 w3 ho4 hb hg_ hnew_; clear hg_ hnew_; (first | rw [← Ny171.out] at ho4 | (simp only [Int.reduceToNat] at ho4; rw [← Ny171.out] at ho4)); have n0_ := Aside0.mk (Kd.R_lower ho4 (below_size (by repeat (first | (with_reducible first | exact HB.out | apply below_alloc | apply pw_below_drewN | apply below_drew1) | exact HB.out)))); have n1_ := Aside0.mk (below_step (by repeat (first | (with_reducible first | exact HB.out | apply below_alloc | apply pw_below_drewN | apply below_drew1) | exact HB.out)) hb); clear HB; have HO173 := n0_; have HB := n1_; clear n0_ n1_; clear hb ho4))
    go_ret2
    exact ⟨by first | rfl | (simp [errW_none, errW_some] <;> rfl) | (simp [*, errW_none, errW_some] <;> rfl), by repeat (first | (with_reducible first | exact HB.out | apply below_alloc | apply pw_below_drewN | apply below_drew1) | exact HB.out)⟩
  · rw [if_neg c2] at H
    have c2b0 : decide (a0 < 0) = false := decide_eq_false c2
    clear c2
    by_cases c5 : a0 ≥ (y171.length : Int)
    · rw [if_pos c5] at H
      have c5b0 : decide ((y171.length : Int) ≤ a0) = true := decide_eq_true c5
      clear c5
      simp only [Option.some.injEq, Prod.mk.injEq] at H
      obtain ⟨rfl, rfl⟩ := H
      go_enter Tryz.func14, Tryz.ntmps14
      go_wp2_with (first | ((with_reducible refine gate_dst (N := 5) rfl ?_); (try (refine gate_guard (by rfl) ?_; dsimp only)); refine Kd.R_lit (Kd.int .i64) _ 39 ?hg (N := 5) ?hd (xs := ([39, 44, 40, 45, 41, 46] : List Int)) (inner := [.int .i64 39, .int .i64 44, .int .i64 40, .int .i64 45, .int .i64 41, .int .i64 46]) (ok := fun _ => True) (okp := fun _ => True) ?hr ?hp (fun _ hk => hk) trivial (Below.refl _ _) (Nat.le_refl _) (by simp) ?_; (case hd => rfl); (case hg => rfl); (case hr => first | (go_simp; done) | (go_simp; rfl)); (case hp => exact (Reps.one (show Kd.M (Kd.int .i64) _ _ _ 39 [.int .i64 39] from rfl) (Reps.one (show Kd.M (Kd.int .i64) _ _ _ 44 [.int .i64 44] from rfl) (Reps.one (show Kd.M (Kd.int .i64) _ _ _ 40 [.int .i64 40] from rfl) (Reps.one (show Kd.M (Kd.int .i64) _ _ _ 45 [.int .i64 45] from rfl) (Reps.one (show Kd.M (Kd.int .i64) _ _ _ 41 [.int .i64 41] from rfl) (Reps.one (show Kd.M (Kd.int .i64) _ _ _ 46 [.int .i64 46] from rfl) (Reps.none _ _)))))))); intro v172 w6 ho7 hb hg_ hnew_; clear hg_ hnew_; (first | rw [← Ny171.out] at ho7 | (simp only [Int.reduceToNat] at ho7; rw [← Ny171.out] at ho7)); have n0_ := Aside0.mk (Kd.R_lower ho7 (below_size (by repeat (first | (with_reducible first | exact HB.out | apply below_alloc | apply pw_below_drewN | apply below_drew1) | exact HB.out)))); have n1_ := Aside0.mk (below_step (by repeat (first | (with_reducible first | exact HB.out | apply below_alloc | apply pw_below_drewN | apply below_drew1) | exact HB.out)) hb); clear HB; have HO173 := n0_; have HB := n1_; clear n0_ n1_; clear hb ho7; obtain ⟨Ao8, co8, eo8⟩ := Kd.R_slice HO173.out; subst eo8))
      go_ret2
      exact ⟨by first | rfl | (simp [errW_none, errW_some] <;> rfl) | (simp [*, errW_none, errW_some] <;> rfl), by repeat (first | (with_reducible first | exact HB.out | apply below_alloc | apply pw_below_drewN | apply below_drew1) | exact HB.out)⟩
    · rw [if_neg c5] at H
      have c5b0 : decide ((y171.length : Int) ≤ a0) = false := decide_eq_false c5
      clear c5
      by_cases c9 : 0 ≤ a0
      · rw [if_pos c9] at H
        have c9b0 : decide (0 ≤ a0) = true := decide_eq_true c9
        clear c9
        by_cases c10 : a0 < (y171.length : Int)
        · rw [if_pos c10] at H
          have c10b0 : decide (a0 < (y171.length : Int)) = true := decide_eq_true c10
          clear c10
          simp only [Option.some.injEq, Prod.mk.injEq] at H
          obtain ⟨rfl, rfl⟩ := H
          go_enter Tryz.func14, Tryz.ntmps14
          go_wp2_with (first | ((with_reducible refine gate_dst (N := 5) rfl ?_); (try (refine gate_guard (by rfl) ?_; dsimp only)); refine Kd.R_lit (Kd.int .i64) _ 39 ?hg (N := 5) ?hd (xs := ([39, 44, 40, 45, 41, 46] : List Int)) (inner := [.int .i64 39, .int .i64 44, .int .i64 40, .int .i64 45, .int .i64 41, .int .i64 46]) (ok := fun _ => True) (okp := fun _ => True) ?hr ?hp (fun _ hk => hk) trivial (Below.refl _ _) (Nat.le_refl _) (by simp) ?_; (case hd => rfl); (case hg => rfl); (case hr => first | (go_simp; done) | (go_simp; rfl)); (case hp => exact (Reps.one (show Kd.M (Kd.int .i64) _ _ _ 39 [.int .i64 39] from rfl) (Reps.one (show Kd.M (Kd.int .i64) _ _ _ 44 [.int .i64 44] from rfl) (Reps.one (show Kd.M (Kd.int .i64) _ _ _ 40 [.int .i64 40] from rfl) (Reps.one (show Kd.M (Kd.int .i64) _ _ _ 45 [.int .i64 45] from rfl) (Reps.one (show Kd.M (Kd.int .i64) _ _ _ 41 [.int .i64 41] from rfl) (Reps.one (show Kd.M (Kd.int .i64) _ _ _ 46 [.int .i64 46] from rfl) (Reps.none _ _)))))))); intro v172 w11 ho12 hb hg_ hnew_; clear hg_ hnew_; (first | rw [← Ny171.out] at ho12 | (simp only [Int.reduceToNat] at ho12; rw [← Ny171.out] at ho12)); have n0_ := Aside0.mk (Kd.R_lower ho12 (below_size (by repeat (first | (with_reducible first | exact HB.out | apply below_alloc | apply pw_below_drewN | apply below_drew1) | exact HB.out)))); have n1_ := Aside0.mk (below_step (by repeat (first | (with_reducible first | exact HB.out | apply below_alloc | apply pw_below_drewN | apply below_drew1) | exact HB.out)) hb); clear HB; have HO173 := n0_; have HB := n1_; clear n0_ n1_; clear hb ho12; obtain ⟨Ao13, co13, eo13⟩ := Kd.R_slice HO173.out; subst eo13; have p174 : 0 ≤ (a0 : Int) := of_decide_eq_true (by first | (with_reducible assumption) | assumption); have q174 : a0 < (y171.length : Int) := of_decide_eq_true (by first | (with_reducible assumption) | assumption); obtain ⟨ad174, e174, hx174_0⟩ := Kd.at_int (Kd.R_reads' HO173.out).2.2 a0 p174 q174; cases e174; replace p174 := eq_true p174; replace q174 := eq_true q174))
          go_ret2
          exact ⟨by first | rfl | (simp [errW_none, errW_some] <;> rfl) | (simp [*, errW_none, errW_some] <;> rfl), by repeat (first | (with_reducible first | exact HB.out | apply below_alloc | apply pw_below_drewN | apply below_drew1) | exact HB.out)⟩
        · rw [if_neg c10] at H
          exact absurd H (by simp)
      · rw [if_neg c9] at H
        exact absurd H (by simp)

/-! ### impl_wordsOf: function 120 -/
def impl_wordsOf.l0 : Nat → List Int → List Int → Int → Int → Option (List Int)
  | 0, _, _, _, _ => none
  | k + 1, x3, x6, x7, x8 => if x8 < x7 then (if 0 ≤ x8 then (if x8 < (x6.length : Int) then (if x3.length < 17592186044416 then (impl_wordsOf.l0 k (x3 ++ [rd x6 x8]) x6 x7 (wrap64 (x8 + 1))) else (none)) else (none)) else (none)) else (some x3)
def impl_wordsOf.f (k : Nat) (l0 : List Int) : Option (List Int) := impl_wordsOf.l0 k ([] : List Int) l0 (l0.length : Int) 0
theorem impl_wordsOf.mono_l : ∀ k, (∀ y0 y1 y2 y3, LeO (impl_wordsOf.l0 k y0 y1 y2 y3) (impl_wordsOf.l0 (k + 1) y0 y1 y2 y3))
  | 0 => fun _ _ _ _ r h => by simp [impl_wordsOf.l0] at h
  | k + 1 => by
    have ih0 := impl_wordsOf.mono_l k
    · intro y0 y1 y2 y3
      unfold impl_wordsOf.l0
      repeat' first
      | (with_reducible exact ih0 _ _ _ _)
      | (with_reducible exact LeO.refl _)
      | (with_reducible exact LeO.none _)
      | (with_reducible refine LeO.ite ?_ ?_)
      | (with_reducible refine LeO.bind ?_ (fun _ => ?_))
      | exact ih0 _ _ _ _
      | exact LeO.none _
      | refine LeO.ite ?_ ?_
      | refine LeO.bind ?_ (fun _ => ?_)
theorem impl_wordsOf.mono : ∀ a0 k, LeO (impl_wordsOf.f k a0) (impl_wordsOf.f (k + 1) a0) := by
  intro a0 k
  have ih0 := impl_wordsOf.mono_l k
  unfold impl_wordsOf.f
  repeat' first
      | (with_reducible exact ih0 _ _ _ _)
      | (with_reducible exact LeO.refl _)
      | (with_reducible exact LeO.none _)
      | (with_reducible refine LeO.ite ?_ ?_)
      | (with_reducible refine LeO.bind ?_ (fun _ => ?_))
      | exact ih0 _ _ _ _
      | exact LeO.none _
      | refine LeO.ite ?_ ?_
      | refine LeO.bind ?_ (fun _ => ?_)
set_option maxHeartbeats 8000000 in
set_option maxRecDepth 100000 in
theorem impl_wordsOf.calls (k : Nat) (A0 : Option Addr) (c0 : Nat) (l0 : List Int) (r : List Int) (w : World) (hr0 : Kd.C (Kd.int .u64) w A0 l0.length l0) (hc0 : l0.length ≤ c0) (h : impl_wordsOf.f k l0 = some r) :
    Calls Tryz.prog 120 #[.slice A0 l0.length c0] w fun e w' => ∃ v0_ : Value, e = .returned (v0_) ∧ Kd.R (Kd.int .u64) 132 w' w.heap.size (fun _ => True) v0_ r ∧ Below w.heap.size w w' := by
  have HR0 := Aside0.mk hr0
  have HC0 := Aside0.mk hc0
  clear hr0 hc0
  have HB := Aside0.mk (Below.refl w.heap.size w)
  have H : (impl_wordsOf.l0 k ([] : List Int) l0 (l0.length : Int) 0) = some r := h
  clear h
  have H' := Aside0.mk H
  clear H
  go_enter Tryz.func120, Tryz.ntmps120
  go_wp2
  go_loopg [3, 8] k (fun kq v3 v8 w' => ∃ (x3_1 : List Int) (x8_1 : Int), v8 = .int .i64 x8_1 ∧ Aside0 (impl_wordsOf.l0 kq x3_1 l0 (l0.length : Int) x8_1 = some r) ∧ Aside0 (kq ≤ k) ∧ Aside0 (Kd.R (Kd.int .u64) 132 w' w.heap.size (fun _ => True) v3 x3_1) ∧ Aside0 (Below w.heap.size w w'))
  case atStart => exact ⟨(([] : List Int)), (0), (by first | rfl | (simp; done) | (simp [*]; done)), H', ⟨Nat.le_refl _⟩, ⟨by first | exact Kd.R_nil _ _ _ _ _ | exact Kd.N_nil _ _ _ _ _ | exact Kd.V_nil _ _ _ _ _ | exact Kd.Q_nil _ _ _ _ _ | exact Kd.S_nil _ _ _ _ _⟩, ⟨by repeat (first | (with_reducible first | exact HB.out | apply below_alloc | apply pw_below_drewN | apply below_drew1) | exact HB.out)⟩⟩
  case round =>
    clear H'
    try clear c1
    obtain ⟨x3_1, x8_1, rfl, HA, HK1, HO_3, HB⟩ := hrel
    cases gk with
    | zero => exact absurd HA.out (by simp [impl_wordsOf.l0])
    | succ k1 =>
      have H := HA.out
      clear HA
      simp only [impl_wordsOf.l0] at H
      by_cases c2 : x8_1 < (l0.length : Int)
      · rw [if_pos c2] at H
        have c2b0 : decide (x8_1 < (l0.length : Int)) = true := decide_eq_true c2
        clear c2
        by_cases c3 : 0 ≤ x8_1
        · rw [if_pos c3] at H
          have c3b0 : decide (0 ≤ x8_1) = true := decide_eq_true c3
          clear c3
          by_cases c4 : x8_1 < (l0.length : Int)
          · rw [if_pos c4] at H
            have c4b0 : decide (x8_1 < (l0.length : Int)) = true := decide_eq_true c4
            clear c4
            by_cases c5 : x3_1.length < 17592186044416
            · rw [if_pos c5] at H
              have LMc5 := Aside0.mk c5
              clear c5
              obtain ⟨y176, hy176⟩ : ∃ y_ : List Int, y_ = (x3_1 ++ [rd l0 x8_1]) := ⟨_, rfl⟩
              replace H : (impl_wordsOf.l0 k1 y176 l0 (l0.length : Int) (wrap64 (x8_1 + 1))) = some r := by first | (rw [hy176]; with_reducible exact H) | (have H2_ := (Option.bind_some _ _).symm.trans H; rw [hy176]; with_reducible exact H2_) | (have H2_ := (Option.bind_some _ _).symm.trans H; with_reducible exact H2_) | with_reducible exact H | (rw [hy176]; exact H) | exact H
              have Ny176 := Aside0.mk hy176
              clear hy176
              have H' := Aside0.mk H
              clear H
              have p175 : 0 ≤ (x8_1 : Int) := of_decide_eq_true (by first | (with_reducible assumption) | assumption)
              have q175 : x8_1 < (l0.length : Int) := of_decide_eq_true (by first | (with_reducible assumption) | assumption)
              obtain ⟨ad175, e175, hx175_0⟩ := Kd.at_int HR0.out x8_1 p175 q175
              cases e175
              replace hx175_0 := (HB.out.cell (World.block_lt_of_cell? w _ hx175_0)).trans hx175_0
              replace p175 := eq_true p175
              replace q175 := eq_true q175
              go_wp2_with (first | ((with_reducible refine gate_builtin (b := .append) (xs := #[.tmp 12, .tmp 14]) rfl ?_); at_builtin; refine Kd.R_append (Kd.int .u64) (w0 := w) w.heap.size rfl (.tmp 12) (.tmp 14) 118 132 (.int .u64 0) 8 rfl Tryz.underlying118 info132 rfl (by decide) (by omega) u3 x3_1 (rd l0 x8_1) [.int .u64 (rd l0 x8_1)] (fun _ => True) (fun _ => False) rfl rfl ?aP (fun _ hk => hk.elim) ?aF ?aO ?aB ?aS ?aL ?_; (case aP => exact rfl); (case aB => exact (by repeat (first | (with_reducible first | exact HB.out | apply below_alloc | apply pw_below_drewN | apply below_drew1) | exact HB.out))); (case aF => exact (fun _ _ => trivial)); (case aO => exact (by (with_reducible repeat (first | apply Kd.R_alloc | apply Kd.R_drewN | apply Kd.R_drew)); exact HO_3.out)); (case aS => exact (below_size (by repeat (first | (with_reducible first | exact HB.out | apply below_alloc | apply pw_below_drewN | apply below_drew1) | exact HB.out)))); (case aL => have := LMc5.out; omega); intro v177 w6 ho hb hg hat; rw [← Ny176.out] at ho; have n0_ := Aside0.mk (hb); have n1_ := Aside0.mk (ho); clear HB; clear HO_3; have HB := n0_; have HO178 := n1_; clear n0_ n1_; clear ho hb hg hat))
              go_roundg k1
              case measure => have := HK1.out; omega
              case rel => exact ⟨(y176), (wrap64 (x8_1 + 1)), (by first | rfl | (simp; done) | (simp [*]; done)), H', ⟨by have := HK1.out; omega⟩, ⟨by (with_reducible repeat (first | apply Kd.R_alloc | apply Kd.R_drewN | apply Kd.R_drew)); exact HO178.out⟩, ⟨by repeat (first | (with_reducible first | exact HB.out | apply below_alloc | apply pw_below_drewN | apply below_drew1) | exact HB.out)⟩⟩
            · rw [if_neg c5] at H
              exact absurd H (by simp)
          · rw [if_neg c4] at H
            exact absurd H (by simp)
        · rw [if_neg c3] at H
          exact absurd H (by simp)
      · rw [if_neg c2] at H
        have c2b0 : decide (x8_1 < (l0.length : Int)) = false := decide_eq_false c2
        clear c2
        obtain rfl := Option.some.inj H
        go_wp2
        go_ret
        exact ⟨_, by first | rfl | (simp [errW_none, errW_some] <;> rfl) | (simp [*, errW_none, errW_some] <;> rfl), by (with_reducible repeat (first | apply Kd.R_alloc | apply Kd.R_drewN | apply Kd.R_drew)); exact HO_3.out, by repeat (first | (with_reducible first | exact HB.out | apply below_alloc | apply pw_below_drewN | apply below_drew1) | exact HB.out)⟩

/-! ### bigall_nat_cmp: function 87 -/
mutual
def bigall_nat_cmp.j0 : Nat → List Int → List Int → Int → Int → Int → Bool → Option (Int)
  | 0, _, _, _, _, _, _ => none
  | k + 1, x0, x1, x4, x5, x6, x18 => if x18 = true then (if x5 < x6 then (some (-1)) else (if x5 > x6 then (some 1) else (some x4))) else (bigall_nat_cmp.l0 k x0 x1 x4 (wrap64 (x5 - 1)))
def bigall_nat_cmp.j2 : Nat → List Int → List Int → Int → Int → Option (Int)
  | 0, _, _, _, _ => none
  | k + 1, x0, x1, x4, x7 => if 0 ≤ x7 then (if x7 < (x0.length : Int) then (if x7 < (x1.length : Int) then (if (rd x0 x7) < (rd x1 x7) then (some (-1)) else (if (rd x0 x7) > (rd x1 x7) then (some 1) else (some x4))) else (none)) else (none)) else (none)
def bigall_nat_cmp.l0 : Nat → List Int → List Int → Int → Int → Option (Int)
  | 0, _, _, _, _ => none
  | k + 1, x0, x1, x4, x7 => if x7 > 0 then (if 0 ≤ x7 then (if x7 < (x0.length : Int) then (if x7 < (x1.length : Int) then (if (rd x0 x7) = (rd x1 x7) then (bigall_nat_cmp.l0 k x0 x1 x4 (wrap64 (x7 - 1))) else (bigall_nat_cmp.j2 k x0 x1 x4 x7)) else (none)) else (none)) else (none)) else (bigall_nat_cmp.j2 k x0 x1 x4 x7)
end
def bigall_nat_cmp.f (k : Nat) (l0 : List Int) (l1 : List Int) : Option (Int) := if (l0.length : Int) = (l1.length : Int) then (bigall_nat_cmp.j0 k l0 l1 0 (l0.length : Int) (l1.length : Int) ((l0.length : Int) == 0)) else (bigall_nat_cmp.j0 k l0 l1 0 (l0.length : Int) (l1.length : Int) true)
theorem bigall_nat_cmp.mono_l : ∀ k, (∀ y0 y1 y2 y3 y4 y5, LeO (bigall_nat_cmp.j0 k y0 y1 y2 y3 y4 y5) (bigall_nat_cmp.j0 (k + 1) y0 y1 y2 y3 y4 y5)) ∧ (∀ y0 y1 y2 y3, LeO (bigall_nat_cmp.j2 k y0 y1 y2 y3) (bigall_nat_cmp.j2 (k + 1) y0 y1 y2 y3)) ∧ (∀ y0 y1 y2 y3, LeO (bigall_nat_cmp.l0 k y0 y1 y2 y3) (bigall_nat_cmp.l0 (k + 1) y0 y1 y2 y3))
  | 0 => ⟨fun _ _ _ _ _ _ r h => by simp [bigall_nat_cmp.j0] at h, fun _ _ _ _ r h => by simp [bigall_nat_cmp.j2] at h, fun _ _ _ _ r h => by simp [bigall_nat_cmp.l0] at h⟩
  | k + 1 => by
    obtain ⟨ih0, ih1, ih2⟩ := bigall_nat_cmp.mono_l k
    refine ⟨?_, ?_, ?_⟩
    · intro y0 y1 y2 y3 y4 y5
      unfold bigall_nat_cmp.j0
      repeat' first
      | (with_reducible exact ih0 _ _ _ _ _ _)
      | (with_reducible exact ih1 _ _ _ _)
      | (with_reducible exact ih2 _ _ _ _)
      | (with_reducible exact LeO.refl _)
      | (with_reducible exact LeO.none _)
      | (with_reducible refine LeO.ite ?_ ?_)
      | (with_reducible refine LeO.bind ?_ (fun _ => ?_))
      | exact ih0 _ _ _ _ _ _
      | exact ih1 _ _ _ _
      | exact ih2 _ _ _ _
      | exact LeO.none _
      | refine LeO.ite ?_ ?_
      | refine LeO.bind ?_ (fun _ => ?_)
    · intro y0 y1 y2 y3
      unfold bigall_nat_cmp.j2
      repeat' first
      | (with_reducible exact ih0 _ _ _ _ _ _)
      | (with_reducible exact ih1 _ _ _ _)
      | (with_reducible exact ih2 _ _ _ _)
      | (with_reducible exact LeO.refl _)
      | (with_reducible exact LeO.none _)
      | (with_reducible refine LeO.ite ?_ ?_)
      | (with_reducible refine LeO.bind ?_ (fun _ => ?_))
      | exact ih0 _ _ _ _ _ _
      | exact ih1 _ _ _ _
      | exact ih2 _ _ _ _
      | exact LeO.none _
      | refine LeO.ite ?_ ?_
      | refine LeO.bind ?_ (fun _ => ?_)
    · intro y0 y1 y2 y3
      unfold bigall_nat_cmp.l0
      repeat' first
      | (with_reducible exact ih0 _ _ _ _ _ _)
      | (with_reducible exact ih1 _ _ _ _)
      | (with_reducible exact ih2 _ _ _ _)
      | (with_reducible exact LeO.refl _)
      | (with_reducible exact LeO.none _)
      | (with_reducible refine LeO.ite ?_ ?_)
      | (with_reducible refine LeO.bind ?_ (fun _ => ?_))
      | exact ih0 _ _ _ _ _ _
      | exact ih1 _ _ _ _
      | exact ih2 _ _ _ _
      | exact LeO.none _
      | refine LeO.ite ?_ ?_
      | refine LeO.bind ?_ (fun _ => ?_)
theorem bigall_nat_cmp.mono : ∀ a0 a1 k, LeO (bigall_nat_cmp.f k a0 a1) (bigall_nat_cmp.f (k + 1) a0 a1) := by
  intro a0 a1 k
  obtain ⟨ih0, ih1, ih2⟩ := bigall_nat_cmp.mono_l k
  unfold bigall_nat_cmp.f
  repeat' first
      | (with_reducible exact ih0 _ _ _ _ _ _)
      | (with_reducible exact ih1 _ _ _ _)
      | (with_reducible exact ih2 _ _ _ _)
      | (with_reducible exact LeO.refl _)
      | (with_reducible exact LeO.none _)
      | (with_reducible refine LeO.ite ?_ ?_)
      | (with_reducible refine LeO.bind ?_ (fun _ => ?_))
      | exact ih0 _ _ _ _ _ _
      | exact ih1 _ _ _ _
      | exact ih2 _ _ _ _
      | exact LeO.none _
      | refine LeO.ite ?_ ?_
      | refine LeO.bind ?_ (fun _ => ?_)
set_option maxHeartbeats 8000000 in
set_option maxRecDepth 100000 in
theorem bigall_nat_cmp.calls (k : Nat) (A0 : Option Addr) (c0 : Nat) (l0 : List Int) (A1 : Option Addr) (c1 : Nat) (l1 : List Int) (r : Int) (w : World) (hr0 : Kd.C (Kd.int .u64) w A0 l0.length l0) (hc0 : l0.length ≤ c0) (hr1 : Kd.C (Kd.int .u64) w A1 l1.length l1) (hc1 : l1.length ≤ c1) (h : bigall_nat_cmp.f k l0 l1 = some r) :
    Calls Tryz.prog 87 #[.slice A0 l0.length c0, .slice A1 l1.length c1] w fun e w' => e = .returned (.int .i64 r) ∧ Drawn0 w w' := by
  have HR0 := Aside0.mk hr0
  have HC0 := Aside0.mk hc0
  clear hr0 hc0
  have HR1 := Aside0.mk hr1
  have HC1 := Aside0.mk hc1
  clear hr1 hc1
  have H : (if (l0.length : Int) = (l1.length : Int) then (bigall_nat_cmp.j0 k l0 l1 0 (l0.length : Int) (l1.length : Int) ((l0.length : Int) == 0)) else (bigall_nat_cmp.j0 k l0 l1 0 (l0.length : Int) (l1.length : Int) true)) = some r := h
  clear h
  have HC3 := Aside0.mk H
  clear H
  go_enter Tryz.func87, Tryz.ntmps87
  go_upto_region 3 with (fail)
  repeat (go_quiet (fail); go_upto_region 3 with (fail))
  go_cut [18] (fun v18 wc => ∃ (kq : Nat) (x18_2 : Bool), v18 = .bool x18_2 ∧ Aside0 (bigall_nat_cmp.j0 kq l0 l1 0 (l0.length : Int) (l1.length : Int) x18_2 = some r) ∧ Aside0 (kq ≤ k) ∧ Drawn0 w wc)
  case first =>
    have H := HC3.out
    clear HC3
    by_cases c4 : (l0.length : Int) = (l1.length : Int)
    · rw [if_pos c4] at H
      have c4b0 : ((l0.length : Int) == (l1.length : Int)) = true := beq_iff_eq.mpr c4
      have c4b1 : ((l0.length : Int) != (l1.length : Int)) = false := bne_eq_false_iff_eq.mpr c4
      have c4b2 : (l0.length == l1.length) = true := by first | simpa using c4 | (simp at c4 ⊢; omega)
      clear c4
      (first | rw [c4b0] | (simp only [i64_w, i32_w]; rw [c4b0]) | skip)
      have H' := Aside0.mk H
      clear H
      go_wp2
      repeat (go_quiet (fail); try go_wp2)
      go_meet
      case rel => exact ⟨_, (((l0.length : Int) == 0)), (by first | rfl | (simp; done) | (simp [*]; done)), H', ⟨by first | omega | exact Nat.le_refl _⟩, by repeat (first | exact Drawn0.refl _ | apply Drawn0.step)⟩
    · rw [if_neg c4] at H
      have c4b0 : ((l0.length : Int) == (l1.length : Int)) = false := beq_eq_false_iff_ne.mpr c4
      have c4b1 : ((l0.length : Int) != (l1.length : Int)) = true := bne_iff_ne.mpr c4
      have c4b2 : (l0.length == l1.length) = false := by first | simpa using c4 | (simp at c4 ⊢; omega)
      (first | rw [c4b0] | (simp only [i64_w, i32_w]; rw [c4b0]) | skip)
      have H' := Aside0.mk H
      clear H
      go_wp2
      repeat (go_quiet (fail); try go_wp2)
      go_meet
      case rel => exact ⟨_, (true), (by first | rfl | (simp; done) | (simp [*]; done)), H', ⟨by first | omega | exact Nat.le_refl _⟩, by repeat (first | exact Drawn0.refl _ | apply Drawn0.step)⟩
  case rest =>
    clear HC3
    try clear c1
    try clear p2
    try clear c4
    try clear c4b0
    try clear c4b1
    try clear c4b2
    obtain ⟨kq, x18_2, rfl, HA, HJ2, ⟨mc2, rfl⟩⟩ := hcut
    cases kq with
    | zero => exact absurd HA.out (by simp [bigall_nat_cmp.j0])
    | succ kj2 =>
      have H := HA.out
      clear HA
      simp only [bigall_nat_cmp.j0] at H
      by_cases c5 : x18_2 = true
      · subst c5
        have H1 : (if (l0.length : Int) < (l1.length : Int) then (some (-1)) else (if (l0.length : Int) > (l1.length : Int) then (some 1) else (some 0))) = some r := by rw [if_pos rfl] at H; exact H
        clear H
        have H := H1
        clear H1
        by_cases c6 : (l0.length : Int) < (l1.length : Int)
        · rw [if_pos c6] at H
          have c6b0 : decide ((l0.length : Int) < (l1.length : Int)) = true := decide_eq_true c6
          have c6b1 : decide (l0.length < l1.length) = true := decide_eq_true (Int.ofNat_lt.mp c6)
          clear c6
          obtain rfl := Option.some.inj H
          go_wp2
          repeat (go_quiet (fail); try go_wp2)
          go_ret
          exact ⟨by first | rfl | (simp; done) | (simp [*]; done), by repeat (first | exact Drawn0.refl _ | apply Drawn0.step)⟩
        · rw [if_neg c6] at H
          have c6b0 : decide ((l0.length : Int) < (l1.length : Int)) = false := decide_eq_false c6
          have c6b1 : decide (l0.length < l1.length) = false := decide_eq_false (fun h => c6 (Int.ofNat_lt.mpr h))
          clear c6
          by_cases c7 : (l0.length : Int) > (l1.length : Int)
          · rw [if_pos c7] at H
            have c7b0 : decide ((l1.length : Int) < (l0.length : Int)) = true := decide_eq_true c7
            have c7b1 : decide (l1.length < l0.length) = true := decide_eq_true (Int.ofNat_lt.mp c7)
            clear c7
            obtain rfl := Option.some.inj H
            go_wp2
            repeat (go_quiet (fail); try go_wp2)
            go_ret
            exact ⟨by first | rfl | (simp; done) | (simp [*]; done), by repeat (first | exact Drawn0.refl _ | apply Drawn0.step)⟩
          · rw [if_neg c7] at H
            have c7b0 : decide ((l1.length : Int) < (l0.length : Int)) = false := decide_eq_false c7
            have c7b1 : decide (l1.length < l0.length) = false := decide_eq_false (fun h => c7 (Int.ofNat_lt.mpr h))
            clear c7
            obtain rfl := Option.some.inj H
            go_wp2
            repeat (go_quiet (fail); try go_wp2)
            go_ret
            exact ⟨by first | rfl | (simp; done) | (simp [*]; done), by repeat (first | exact Drawn0.refl _ | apply Drawn0.step)⟩
      · replace c5 := Bool.eq_false_iff.mpr c5
        subst c5
        have H1 : (bigall_nat_cmp.l0 kj2 l0 l1 0 (wrap64 ((l0.length : Int) - 1))) = some r := by rw [if_neg (show ¬ (false = true) by decide)] at H; exact H
        clear H
        have H := H1
        clear H1
        have HC8 := Aside0.mk H
        clear H
        go_upto_block 1 with (fail)
        repeat (go_quiet (fail); go_upto_block 1 with (fail))
        go_cut [7] (fun v7 wc => ∃ (kq : Nat) (x7_7 : Int), v7 = .int .i64 x7_7 ∧ Aside0 (bigall_nat_cmp.j2 kq l0 l1 0 x7_7 = some r) ∧ Aside0 (kq ≤ kj2) ∧ Drawn0 w wc)
        case first =>
          have H := HC8.out
          clear HC8
          have H' := Aside0.mk H
          clear H
          go_wp2
          repeat (go_quiet (fail); try go_wp2)
          go_loopg [7] kj2 (fun kq v7 w' => ∃ (x7_2 : Int), v7 = .int .i64 x7_2 ∧ Aside0 (bigall_nat_cmp.l0 kq l0 l1 0 x7_2 = some r) ∧ Aside0 (kq ≤ kj2) ∧ Drawn0 w w')
          case atStart => exact ⟨(wrap64 ((l0.length : Int) - 1)), (by first | rfl | (simp; done) | (simp [*]; done)), H', ⟨Nat.le_refl _⟩, by repeat (first | exact Drawn0.refl _ | apply Drawn0.step)⟩
          case round =>
            clear H'
            try clear c1
            try clear c2
            try clear p2
            try clear c4
            try clear c4b0
            try clear c4b1
            try clear c4b2
            try clear c5
            try clear c6
            try clear c6b0
            try clear c6b1
            try clear p6
            try clear c7
            try clear c7b0
            try clear c7b1
            try clear c8
            try clear p2
            obtain ⟨x7_2, rfl, HA, HK2, ⟨m2, rfl⟩⟩ := hrel
            cases gk with
            | zero => exact absurd HA.out (by simp [bigall_nat_cmp.l0])
            | succ k2 =>
              have H := HA.out
              clear HA
              simp only [bigall_nat_cmp.l0] at H
              by_cases c9 : x7_2 > 0
              · rw [if_pos c9] at H
                have c9b0 : decide (0 < x7_2) = true := decide_eq_true c9
                clear c9
                (first | rw [c9b0] | (simp only [i64_w, i32_w]; rw [c9b0]) | skip)
                by_cases c10 : 0 ≤ x7_2
                · rw [if_pos c10] at H
                  have c10b0 : decide (0 ≤ x7_2) = true := decide_eq_true c10
                  clear c10
                  by_cases c11 : x7_2 < (l0.length : Int)
                  · rw [if_pos c11] at H
                    have c11b0 : decide (x7_2 < (l0.length : Int)) = true := decide_eq_true c11
                    clear c11
                    by_cases c12 : x7_2 < (l1.length : Int)
                    · rw [if_pos c12] at H
                      have c12b0 : decide (x7_2 < (l1.length : Int)) = true := decide_eq_true c12
                      clear c12
                      by_cases c13 : (rd l0 x7_2) = (rd l1 x7_2)
                      · rw [if_pos c13] at H
                        have c13b0 : ((rd l0 x7_2) == (rd l1 x7_2)) = true := beq_iff_eq.mpr c13
                        have c13b1 : ((rd l0 x7_2) != (rd l1 x7_2)) = false := bne_eq_false_iff_eq.mpr c13
                        clear c13
                        have H' := Aside0.mk H
                        clear H
                        have p179 : 0 ≤ (x7_2 : Int) := of_decide_eq_true (by first | (with_reducible assumption) | assumption)
                        have q179 : x7_2 < (l0.length : Int) := of_decide_eq_true (by first | (with_reducible assumption) | assumption)
                        obtain ⟨ad179, e179, hx179_0⟩ := Kd.at_int HR0.out x7_2 p179 q179
                        cases e179
                        replace p179 := eq_true p179
                        replace q179 := eq_true q179
                        have p180 : 0 ≤ (x7_2 : Int) := of_decide_eq_true (by first | (with_reducible assumption) | assumption)
                        have q180 : x7_2 < (l1.length : Int) := of_decide_eq_true (by first | (with_reducible assumption) | assumption)
                        obtain ⟨ad180, e180, hx180_0⟩ := Kd.at_int HR1.out x7_2 p180 q180
                        cases e180
                        replace p180 := eq_true p180
                        replace q180 := eq_true q180
                        go_wp2
                        repeat (go_quiet (fail); try go_wp2)
                        go_roundg k2
                        case measure => have := HJ2.out; have := HK2.out; omega
                        case rel => exact ⟨(wrap64 (x7_2 - 1)), (by first | rfl | (simp; done) | (simp [*]; done)), H', ⟨by have := HJ2.out; have := HK2.out; omega⟩, by repeat (first | exact Drawn0.refl _ | apply Drawn0.step)⟩
                      · rw [if_neg c13] at H
                        have c13b0 : ((rd l0 x7_2) == (rd l1 x7_2)) = false := beq_eq_false_iff_ne.mpr c13
                        have c13b1 : ((rd l0 x7_2) != (rd l1 x7_2)) = true := bne_iff_ne.mpr c13
                        have H' := Aside0.mk H
                        clear H
                        have p179 : 0 ≤ (x7_2 : Int) := of_decide_eq_true (by first | (with_reducible assumption) | assumption)
                        have q179 : x7_2 < (l0.length : Int) := of_decide_eq_true (by first | (with_reducible assumption) | assumption)
                        obtain ⟨ad179, e179, hx179_0⟩ := Kd.at_int HR0.out x7_2 p179 q179
                        cases e179
                        replace p179 := eq_true p179
                        replace q179 := eq_true q179
                        have p180 : 0 ≤ (x7_2 : Int) := of_decide_eq_true (by first | (with_reducible assumption) | assumption)
                        have q180 : x7_2 < (l1.length : Int) := of_decide_eq_true (by first | (with_reducible assumption) | assumption)
                        obtain ⟨ad180, e180, hx180_0⟩ := Kd.at_int HR1.out x7_2 p180 q180
                        cases e180
                        replace p180 := eq_true p180
                        replace q180 := eq_true q180
                        go_wp2
                        repeat (go_quiet (fail); try go_wp2)
                        go_meet
                        case rel => exact ⟨_, (x7_2), (by first | rfl | (simp; done) | (simp [*]; done)), H', ⟨by have := HJ2.out; have := HK2.out; first | omega | exact Nat.le_refl _⟩, by repeat (first | exact Drawn0.refl _ | apply Drawn0.step)⟩
                    · rw [if_neg c12] at H
                      exact absurd H (by simp)
                  · rw [if_neg c11] at H
                    exact absurd H (by simp)
                · rw [if_neg c10] at H
                  exact absurd H (by simp)
              · rw [if_neg c9] at H
                have c9b0 : decide (0 < x7_2) = false := decide_eq_false c9
                clear c9
                (first | rw [c9b0] | (simp only [i64_w, i32_w]; rw [c9b0]) | skip)
                have H' := Aside0.mk H
                clear H
                go_wp2
                repeat (go_quiet (fail); try go_wp2)
                go_meet
                case rel => exact ⟨_, (x7_2), (by first | rfl | (simp; done) | (simp [*]; done)), H', ⟨by have := HJ2.out; have := HK2.out; first | omega | exact Nat.le_refl _⟩, by repeat (first | exact Drawn0.refl _ | apply Drawn0.step)⟩
        case rest =>
          clear HC8
          try clear c1
          try clear p1
          try clear q1
          try clear hx1
          try clear c2
          try clear p2
          try clear c4
          try clear c4b0
          try clear c4b1
          try clear c4b2
          try clear c5
          try clear c6
          try clear c6b0
          try clear c6b1
          try clear p6
          try clear c7
          try clear c7b0
          try clear c7b1
          try clear c8
          try clear c9
          try clear c9b0
          try clear c10
          try clear c10b0
          try clear c11
          try clear c11b0
          try clear c12
          try clear c12b0
          try clear c13
          try clear c13b0
          try clear c13b1
          try clear hx179_0
          try clear hx180_0
          try clear p179
          try clear p180
          try clear p2
          try clear p6
          try clear q179
          try clear q180
          obtain ⟨kq, x7_7, rfl, HA, HJ7, ⟨mc7, rfl⟩⟩ := hcut
          cases kq with
          | zero => exact absurd HA.out (by simp [bigall_nat_cmp.j2])
          | succ kj7 =>
            have H := HA.out
            clear HA
            simp only [bigall_nat_cmp.j2] at H
            by_cases c14 : 0 ≤ x7_7
            · rw [if_pos c14] at H
              have c14b0 : decide (0 ≤ x7_7) = true := decide_eq_true c14
              clear c14
              by_cases c15 : x7_7 < (l0.length : Int)
              · rw [if_pos c15] at H
                have c15b0 : decide (x7_7 < (l0.length : Int)) = true := decide_eq_true c15
                clear c15
                by_cases c16 : x7_7 < (l1.length : Int)
                · rw [if_pos c16] at H
                  have c16b0 : decide (x7_7 < (l1.length : Int)) = true := decide_eq_true c16
                  clear c16
                  by_cases c17 : (rd l0 x7_7) < (rd l1 x7_7)
                  · rw [if_pos c17] at H
                    have c17b0 : decide ((rd l0 x7_7) < (rd l1 x7_7)) = true := decide_eq_true c17
                    clear c17
                    obtain rfl := Option.some.inj H
                    have p181 : 0 ≤ (x7_7 : Int) := of_decide_eq_true (by first | (with_reducible assumption) | assumption)
                    have q181 : x7_7 < (l0.length : Int) := of_decide_eq_true (by first | (with_reducible assumption) | assumption)
                    obtain ⟨ad181, e181, hx181_0⟩ := Kd.at_int HR0.out x7_7 p181 q181
                    cases e181
                    replace p181 := eq_true p181
                    replace q181 := eq_true q181
                    have p182 : 0 ≤ (x7_7 : Int) := of_decide_eq_true (by first | (with_reducible assumption) | assumption)
                    have q182 : x7_7 < (l1.length : Int) := of_decide_eq_true (by first | (with_reducible assumption) | assumption)
                    obtain ⟨ad182, e182, hx182_0⟩ := Kd.at_int HR1.out x7_7 p182 q182
                    cases e182
                    replace p182 := eq_true p182
                    replace q182 := eq_true q182
                    go_wp2
                    repeat (go_quiet (fail); try go_wp2)
                    go_ret
                    exact ⟨by first | rfl | (simp; done) | (simp [*]; done), by repeat (first | exact Drawn0.refl _ | apply Drawn0.step)⟩
                  · rw [if_neg c17] at H
                    have c17b0 : decide ((rd l0 x7_7) < (rd l1 x7_7)) = false := decide_eq_false c17
                    clear c17
                    by_cases c18 : (rd l0 x7_7) > (rd l1 x7_7)
                    · rw [if_pos c18] at H
                      have c18b0 : decide ((rd l1 x7_7) < (rd l0 x7_7)) = true := decide_eq_true c18
                      clear c18
                      obtain rfl := Option.some.inj H
                      have p181 : 0 ≤ (x7_7 : Int) := of_decide_eq_true (by first | (with_reducible assumption) | assumption)
                      have q181 : x7_7 < (l0.length : Int) := of_decide_eq_true (by first | (with_reducible assumption) | assumption)
                      obtain ⟨ad181, e181, hx181_0⟩ := Kd.at_int HR0.out x7_7 p181 q181
                      cases e181
                      replace p181 := eq_true p181
                      replace q181 := eq_true q181
                      have p182 : 0 ≤ (x7_7 : Int) := of_decide_eq_true (by first | (with_reducible assumption) | assumption)
                      have q182 : x7_7 < (l1.length : Int) := of_decide_eq_true (by first | (with_reducible assumption) | assumption)
                      obtain ⟨ad182, e182, hx182_0⟩ := Kd.at_int HR1.out x7_7 p182 q182
                      cases e182
                      replace p182 := eq_true p182
                      replace q182 := eq_true q182
                      have p183 : 0 ≤ (x7_7 : Int) := of_decide_eq_true (by first | (with_reducible assumption) | assumption)
                      have q183 : x7_7 < (l0.length : Int) := of_decide_eq_true (by first | (with_reducible assumption) | assumption)
                      obtain ⟨ad183, e183, hx183_0⟩ := Kd.at_int HR0.out x7_7 p183 q183
                      obtain rfl : ad181 = ad183 := (by injection e183)
                      replace p183 := eq_true p183
                      replace q183 := eq_true q183
                      have p184 : 0 ≤ (x7_7 : Int) := of_decide_eq_true (by first | (with_reducible assumption) | assumption)
                      have q184 : x7_7 < (l1.length : Int) := of_decide_eq_true (by first | (with_reducible assumption) | assumption)
                      obtain ⟨ad184, e184, hx184_0⟩ := Kd.at_int HR1.out x7_7 p184 q184
                      obtain rfl : ad182 = ad184 := (by injection e184)
                      replace p184 := eq_true p184
                      replace q184 := eq_true q184
                      go_wp2
                      repeat (go_quiet (fail); try go_wp2)
                      go_ret
                      exact ⟨by first | rfl | (simp; done) | (simp [*]; done), by repeat (first | exact Drawn0.refl _ | apply Drawn0.step)⟩
                    · rw [if_neg c18] at H
                      have c18b0 : decide ((rd l1 x7_7) < (rd l0 x7_7)) = false := decide_eq_false c18
                      clear c18
                      obtain rfl := Option.some.inj H
                      have p181 : 0 ≤ (x7_7 : Int) := of_decide_eq_true (by first | (with_reducible assumption) | assumption)
                      have q181 : x7_7 < (l0.length : Int) := of_decide_eq_true (by first | (with_reducible assumption) | assumption)
                      obtain ⟨ad181, e181, hx181_0⟩ := Kd.at_int HR0.out x7_7 p181 q181
                      cases e181
                      replace p181 := eq_true p181
                      replace q181 := eq_true q181
                      have p182 : 0 ≤ (x7_7 : Int) := of_decide_eq_true (by first | (with_reducible assumption) | assumption)
                      have q182 : x7_7 < (l1.length : Int) := of_decide_eq_true (by first | (with_reducible assumption) | assumption)
                      obtain ⟨ad182, e182, hx182_0⟩ := Kd.at_int HR1.out x7_7 p182 q182
                      cases e182
                      replace p182 := eq_true p182
                      replace q182 := eq_true q182
                      have p183 : 0 ≤ (x7_7 : Int) := of_decide_eq_true (by first | (with_reducible assumption) | assumption)
                      have q183 : x7_7 < (l0.length : Int) := of_decide_eq_true (by first | (with_reducible assumption) | assumption)
                      obtain ⟨ad183, e183, hx183_0⟩ := Kd.at_int HR0.out x7_7 p183 q183
                      obtain rfl : ad181 = ad183 := (by injection e183)
                      replace p183 := eq_true p183
                      replace q183 := eq_true q183
                      have p184 : 0 ≤ (x7_7 : Int) := of_decide_eq_true (by first | (with_reducible assumption) | assumption)
                      have q184 : x7_7 < (l1.length : Int) := of_decide_eq_true (by first | (with_reducible assumption) | assumption)
                      obtain ⟨ad184, e184, hx184_0⟩ := Kd.at_int HR1.out x7_7 p184 q184
                      obtain rfl : ad182 = ad184 := (by injection e184)
                      replace p184 := eq_true p184
                      replace q184 := eq_true q184
                      go_wp2
                      repeat (go_quiet (fail); try go_wp2)
                      go_ret
                      exact ⟨by first | rfl | (simp; done) | (simp [*]; done), by repeat (first | exact Drawn0.refl _ | apply Drawn0.step)⟩
                · rw [if_neg c16] at H
                  exact absurd H (by simp)
              · rw [if_neg c15] at H
                exact absurd H (by simp)
            · rw [if_neg c14] at H
              exact absurd H (by simp)

/-! ### bigall_low64: function 152 -/
def bigall_low64.f (l0 : List Int) : Option (Int) := if (l0.length : Int) = 0 then (some 0) else (if 0 < (l0.length : Int) then (some (rd l0 0)) else (none))
set_option maxHeartbeats 8000000 in
set_option maxRecDepth 100000 in
theorem bigall_low64.calls (A0 : Option Addr) (c0 : Nat) (l0 : List Int) (r : Int) (w : World) (hr0 : Kd.C (Kd.int .u64) w A0 l0.length l0) (hc0 : l0.length ≤ c0) (h : bigall_low64.f l0 = some r) :
    Calls Tryz.prog 152 #[.slice A0 l0.length c0] w fun e w' => e = .returned (.int .u64 r) ∧ Drawn0 w w' := by
  have HR0 := Aside0.mk hr0
  have HC0 := Aside0.mk hc0
  clear hr0 hc0
  have H : (if (l0.length : Int) = 0 then (some 0) else (if 0 < (l0.length : Int) then (some (rd l0 0)) else (none))) = some r := h
  clear h
  by_cases c2 : (l0.length : Int) = 0
  · rw [if_pos c2] at H
    have c2b0 : ((l0.length : Int) == 0) = true := beq_iff_eq.mpr c2
    have c2b1 : ((l0.length : Int) != 0) = false := bne_eq_false_iff_eq.mpr c2
    clear c2
    obtain rfl := Option.some.inj H
    go_enter Tryz.func152, Tryz.ntmps152
    go_wp2
    go_ret
    exact ⟨by first | rfl | (simp; done) | (simp [*]; done), by repeat (first | exact Drawn0.refl _ | apply Drawn0.step)⟩
  · rw [if_neg c2] at H
    have c2b0 : ((l0.length : Int) == 0) = false := beq_eq_false_iff_ne.mpr c2
    have c2b1 : ((l0.length : Int) != 0) = true := bne_iff_ne.mpr c2
    have c2b2 : ¬ (l0 = []) := fun h_ => c2 (by rw [h_]; rfl)
    by_cases c3 : 0 < (l0.length : Int)
    · rw [if_pos c3] at H
      have c3b0 : decide (0 < (l0.length : Int)) = true := decide_eq_true c3
      have c3b1 : decide (0 < l0.length) = true := decide_eq_true (by omega)
      clear c3
      obtain rfl := Option.some.inj H
      have p185 : 0 ≤ (0 : Int) := (by omega)
      have q185 : 0 < (l0.length : Int) := of_decide_eq_true (by first | (with_reducible assumption) | assumption)
      obtain ⟨ad185, e185, hx185_0⟩ := Kd.at_int HR0.out 0 p185 q185
      cases e185
      have qi185 : (0 < l0.length) = True := eq_true (by omega)
      (try rw [show ((0 : Int)).toNat = 0 from rfl] at hx185_0)
      (try rw [Addr.add_zero'] at hx185_0)
      replace p185 := eq_true p185
      replace q185 := eq_true q185
      go_enter Tryz.func152, Tryz.ntmps152
      go_wp2
      go_ret
      exact ⟨by first | rfl | (simp; done) | (simp [*]; done), by repeat (first | exact Drawn0.refl _ | apply Drawn0.step)⟩
    · rw [if_neg c3] at H
      exact absurd H (by simp)

end Go.Proofs.YtbcgeeaboecmgaaGreatDoor.Ps

-- PRINTED by print.py (a twelfth state) out of the translation. Not trusted: Lean checks it.
import Derived.Test.YtfppllbmieenfaaGreatDoorPs0
namespace Go.Proofs.YtfppllbmieenfaaGreatDoor.Ps
open Go.RowKit Go.Proofs.YtfppllbmieenfaaGreatDoorW.PrintWords Go.Proofs.YtfppllbmieenfaaGreatDoorW.PrintLast Go.Proofs.YtfppllbmieenfaaGreatDoorW.PrintMore
attribute [local go_sem] max2_int min2_int max_two min_two max_three min_three max_four min_four   -- for this text's walks alone
set_option linter.unusedVariables false
set_option linter.unusedSimpArgs false

/-! ### spec_Cmp: function 91 -/
def spec_Cmp.l0 : Nat → List Int → List Int → Int → Option (Int)
  | 0, _, _, _ => none
  | k + 1, x0, x1, x5 => if x5 ≥ 0 then (if 0 ≤ x5 then (if x5 < (x0.length : Int) then (if x5 < (x1.length : Int) then (if (rd x0 x5) < (rd x1 x5) then (some (-1)) else (if (rd x0 x5) > (rd x1 x5) then (some 1) else (spec_Cmp.l0 k x0 x1 (wrap64 (x5 - 1))))) else (none)) else (none)) else (none)) else (some 0)
def spec_Cmp.f (k : Nat) (l0 : List Int) (l1 : List Int) : Option (Int) := if (l0.length : Int) < (l1.length : Int) then (some (-1)) else (if (l0.length : Int) > (l1.length : Int) then (some 1) else (spec_Cmp.l0 k l0 l1 (wrap64 ((l0.length : Int) - 1))))
theorem spec_Cmp.mono_l : ∀ k, (∀ y0 y1 y2, LeO (spec_Cmp.l0 k y0 y1 y2) (spec_Cmp.l0 (k + 1) y0 y1 y2))
  | 0 => fun _ _ _ r h => by simp [spec_Cmp.l0] at h
  | k + 1 => by
    have ih0 := spec_Cmp.mono_l k
    · intro y0 y1 y2
      unfold spec_Cmp.l0
      repeat' first
      | (with_reducible exact ih0 _ _ _)
      | (with_reducible exact LeO.refl _)
      | (with_reducible exact LeO.none _)
      | (with_reducible refine LeO.ite ?_ ?_)
      | (with_reducible refine LeO.bind ?_ (fun _ => ?_))
      | exact ih0 _ _ _
      | exact LeO.none _
      | refine LeO.ite ?_ ?_
      | refine LeO.bind ?_ (fun _ => ?_)
theorem spec_Cmp.mono : ∀ a0 a1 k, LeO (spec_Cmp.f k a0 a1) (spec_Cmp.f (k + 1) a0 a1) := by
  intro a0 a1 k
  have ih0 := spec_Cmp.mono_l k
  unfold spec_Cmp.f
  repeat' first
      | (with_reducible exact ih0 _ _ _)
      | (with_reducible exact LeO.refl _)
      | (with_reducible exact LeO.none _)
      | (with_reducible refine LeO.ite ?_ ?_)
      | (with_reducible refine LeO.bind ?_ (fun _ => ?_))
      | exact ih0 _ _ _
      | exact LeO.none _
      | refine LeO.ite ?_ ?_
      | refine LeO.bind ?_ (fun _ => ?_)
set_option maxHeartbeats 8000000 in
set_option maxRecDepth 100000 in
theorem spec_Cmp.calls (k : Nat) (A0 : Option Addr) (c0 : Nat) (l0 : List Int) (A1 : Option Addr) (c1 : Nat) (l1 : List Int) (r : Int) (w : World) (hr0 : Kd.C (Kd.int .i64) w A0 l0.length l0) (hc0 : l0.length ≤ c0) (hr1 : Kd.C (Kd.int .i64) w A1 l1.length l1) (hc1 : l1.length ≤ c1) (h : spec_Cmp.f k l0 l1 = some r) :
    Calls Tryz.prog 91 #[.slice A0 l0.length c0, .slice A1 l1.length c1] w fun e w' => e = .returned (.int .i64 r) ∧ Drawn0 w w' := by
  have HR0 := Aside0.mk hr0
  have HC0 := Aside0.mk hc0
  clear hr0 hc0
  have HR1 := Aside0.mk hr1
  have HC1 := Aside0.mk hc1
  clear hr1 hc1
  have H : (if (l0.length : Int) < (l1.length : Int) then (some (-1)) else (if (l0.length : Int) > (l1.length : Int) then (some 1) else (spec_Cmp.l0 k l0 l1 (wrap64 ((l0.length : Int) - 1))))) = some r := h
  clear h
  by_cases c3 : (l0.length : Int) < (l1.length : Int)
  · rw [if_pos c3] at H
    have c3b0 : decide ((l0.length : Int) < (l1.length : Int)) = true := decide_eq_true c3
    have c3b1 : decide (l0.length < l1.length) = true := decide_eq_true (Int.ofNat_lt.mp c3)
    clear c3
    obtain rfl := Option.some.inj H
    go_enter Tryz.func91, Tryz.ntmps91
    go_wp2
    repeat (go_quiet (fail); try go_wp2)
    go_ret
    exact ⟨by first | rfl | (simp; done) | (simp [*]; done), by repeat (first | exact Drawn0.refl _ | apply Drawn0.step)⟩
  · rw [if_neg c3] at H
    have c3b0 : decide ((l0.length : Int) < (l1.length : Int)) = false := decide_eq_false c3
    have c3b1 : decide (l0.length < l1.length) = false := decide_eq_false (fun h => c3 (Int.ofNat_lt.mpr h))
    clear c3
    by_cases c4 : (l0.length : Int) > (l1.length : Int)
    · rw [if_pos c4] at H
      have c4b0 : decide ((l1.length : Int) < (l0.length : Int)) = true := decide_eq_true c4
      have c4b1 : decide (l1.length < l0.length) = true := decide_eq_true (Int.ofNat_lt.mp c4)
      clear c4
      obtain rfl := Option.some.inj H
      go_enter Tryz.func91, Tryz.ntmps91
      go_wp2
      repeat (go_quiet (fail); try go_wp2)
      go_ret
      exact ⟨by first | rfl | (simp; done) | (simp [*]; done), by repeat (first | exact Drawn0.refl _ | apply Drawn0.step)⟩
    · rw [if_neg c4] at H
      have c4b0 : decide ((l1.length : Int) < (l0.length : Int)) = false := decide_eq_false c4
      have c4b1 : decide (l1.length < l0.length) = false := decide_eq_false (fun h => c4 (Int.ofNat_lt.mpr h))
      clear c4
      have H' := Aside0.mk H
      clear H
      go_enter Tryz.func91, Tryz.ntmps91
      go_wp2
      repeat (go_quiet (fail); try go_wp2)
      go_loopg [5] k (fun kq v5 w' => ∃ (x5_1 : Int), v5 = .int .i64 x5_1 ∧ Aside0 (spec_Cmp.l0 kq l0 l1 x5_1 = some r) ∧ Aside0 (kq ≤ k) ∧ Drawn0 w w')
      case atStart => exact ⟨(wrap64 ((l0.length : Int) - 1)), (by first | rfl | (simp; done) | (simp [*]; done)), H', ⟨Nat.le_refl _⟩, by repeat (first | exact Drawn0.refl _ | apply Drawn0.step)⟩
      case round =>
        clear H'
        try clear c1
        try clear p2
        try clear c3
        try clear c3b0
        try clear c3b1
        try clear c4
        try clear c4b0
        try clear c4b1
        obtain ⟨x5_1, rfl, HA, HK1, ⟨m1, rfl⟩⟩ := hrel
        cases gk with
        | zero => exact absurd HA.out (by simp [spec_Cmp.l0])
        | succ k1 =>
          have H := HA.out
          clear HA
          simp only [spec_Cmp.l0] at H
          by_cases c5 : x5_1 ≥ 0
          · rw [if_pos c5] at H
            have c5b0 : decide (0 ≤ x5_1) = true := decide_eq_true c5
            clear c5
            by_cases c6 : 0 ≤ x5_1
            · rw [if_pos c6] at H
              have c6b0 : decide (0 ≤ x5_1) = true := decide_eq_true c6
              clear c6
              by_cases c7 : x5_1 < (l0.length : Int)
              · rw [if_pos c7] at H
                have c7b0 : decide (x5_1 < (l0.length : Int)) = true := decide_eq_true c7
                clear c7
                by_cases c8 : x5_1 < (l1.length : Int)
                · rw [if_pos c8] at H
                  have c8b0 : decide (x5_1 < (l1.length : Int)) = true := decide_eq_true c8
                  clear c8
                  by_cases c9 : (rd l0 x5_1) < (rd l1 x5_1)
                  · rw [if_pos c9] at H
                    have c9b0 : decide ((rd l0 x5_1) < (rd l1 x5_1)) = true := decide_eq_true c9
                    clear c9
                    obtain rfl := Option.some.inj H
                    have p159 : 0 ≤ (x5_1 : Int) := of_decide_eq_true (by first | (with_reducible assumption) | assumption)
                    have q159 : x5_1 < (l0.length : Int) := of_decide_eq_true (by first | (with_reducible assumption) | assumption)
                    obtain ⟨ad159, e159, hx159_0⟩ := Kd.at_int HR0.out x5_1 p159 q159
                    cases e159
                    replace p159 := eq_true p159
                    replace q159 := eq_true q159
                    have p160 : 0 ≤ (x5_1 : Int) := of_decide_eq_true (by first | (with_reducible assumption) | assumption)
                    have q160 : x5_1 < (l1.length : Int) := of_decide_eq_true (by first | (with_reducible assumption) | assumption)
                    obtain ⟨ad160, e160, hx160_0⟩ := Kd.at_int HR1.out x5_1 p160 q160
                    cases e160
                    replace p160 := eq_true p160
                    replace q160 := eq_true q160
                    go_wp2
                    repeat (go_quiet (fail); try go_wp2)
                    go_ret
                    exact ⟨by first | rfl | (simp; done) | (simp [*]; done), by repeat (first | exact Drawn0.refl _ | apply Drawn0.step)⟩
                  · rw [if_neg c9] at H
                    have c9b0 : decide ((rd l0 x5_1) < (rd l1 x5_1)) = false := decide_eq_false c9
                    clear c9
                    by_cases c10 : (rd l0 x5_1) > (rd l1 x5_1)
                    · rw [if_pos c10] at H
                      have c10b0 : decide ((rd l1 x5_1) < (rd l0 x5_1)) = true := decide_eq_true c10
                      clear c10
                      obtain rfl := Option.some.inj H
                      have p159 : 0 ≤ (x5_1 : Int) := of_decide_eq_true (by first | (with_reducible assumption) | assumption)
                      have q159 : x5_1 < (l0.length : Int) := of_decide_eq_true (by first | (with_reducible assumption) | assumption)
                      obtain ⟨ad159, e159, hx159_0⟩ := Kd.at_int HR0.out x5_1 p159 q159
                      cases e159
                      replace p159 := eq_true p159
                      replace q159 := eq_true q159
                      have p160 : 0 ≤ (x5_1 : Int) := of_decide_eq_true (by first | (with_reducible assumption) | assumption)
                      have q160 : x5_1 < (l1.length : Int) := of_decide_eq_true (by first | (with_reducible assumption) | assumption)
                      obtain ⟨ad160, e160, hx160_0⟩ := Kd.at_int HR1.out x5_1 p160 q160
                      cases e160
                      replace p160 := eq_true p160
                      replace q160 := eq_true q160
                      have p161 : 0 ≤ (x5_1 : Int) := of_decide_eq_true (by first | (with_reducible assumption) | assumption)
                      have q161 : x5_1 < (l0.length : Int) := of_decide_eq_true (by first | (with_reducible assumption) | assumption)
                      obtain ⟨ad161, e161, hx161_0⟩ := Kd.at_int HR0.out x5_1 p161 q161
                      obtain rfl : ad159 = ad161 := (by injection e161)
                      replace p161 := eq_true p161
                      replace q161 := eq_true q161
                      have p162 : 0 ≤ (x5_1 : Int) := of_decide_eq_true (by first | (with_reducible assumption) | assumption)
                      have q162 : x5_1 < (l1.length : Int) := of_decide_eq_true (by first | (with_reducible assumption) | assumption)
                      obtain ⟨ad162, e162, hx162_0⟩ := Kd.at_int HR1.out x5_1 p162 q162
                      obtain rfl : ad160 = ad162 := (by injection e162)
                      replace p162 := eq_true p162
                      replace q162 := eq_true q162
                      go_wp2
                      repeat (go_quiet (fail); try go_wp2)
                      go_ret
                      exact ⟨by first | rfl | (simp; done) | (simp [*]; done), by repeat (first | exact Drawn0.refl _ | apply Drawn0.step)⟩
                    · rw [if_neg c10] at H
                      have c10b0 : decide ((rd l1 x5_1) < (rd l0 x5_1)) = false := decide_eq_false c10
                      clear c10
                      have H' := Aside0.mk H
                      clear H
                      have p159 : 0 ≤ (x5_1 : Int) := of_decide_eq_true (by first | (with_reducible assumption) | assumption)
                      have q159 : x5_1 < (l0.length : Int) := of_decide_eq_true (by first | (with_reducible assumption) | assumption)
                      obtain ⟨ad159, e159, hx159_0⟩ := Kd.at_int HR0.out x5_1 p159 q159
                      cases e159
                      replace p159 := eq_true p159
                      replace q159 := eq_true q159
                      have p160 : 0 ≤ (x5_1 : Int) := of_decide_eq_true (by first | (with_reducible assumption) | assumption)
                      have q160 : x5_1 < (l1.length : Int) := of_decide_eq_true (by first | (with_reducible assumption) | assumption)
                      obtain ⟨ad160, e160, hx160_0⟩ := Kd.at_int HR1.out x5_1 p160 q160
                      cases e160
                      replace p160 := eq_true p160
                      replace q160 := eq_true q160
                      have p161 : 0 ≤ (x5_1 : Int) := of_decide_eq_true (by first | (with_reducible assumption) | assumption)
                      have q161 : x5_1 < (l0.length : Int) := of_decide_eq_true (by first | (with_reducible assumption) | assumption)
                      obtain ⟨ad161, e161, hx161_0⟩ := Kd.at_int HR0.out x5_1 p161 q161
                      obtain rfl : ad159 = ad161 := (by injection e161)
                      replace p161 := eq_true p161
                      replace q161 := eq_true q161
                      have p162 : 0 ≤ (x5_1 : Int) := of_decide_eq_true (by first | (with_reducible assumption) | assumption)
                      have q162 : x5_1 < (l1.length : Int) := of_decide_eq_true (by first | (with_reducible assumption) | assumption)
                      obtain ⟨ad162, e162, hx162_0⟩ := Kd.at_int HR1.out x5_1 p162 q162
                      obtain rfl : ad160 = ad162 := (by injection e162)
                      replace p162 := eq_true p162
                      replace q162 := eq_true q162
                      go_wp2
                      repeat (go_quiet (fail); try go_wp2)
                      go_roundg k1
                      case measure => have := HK1.out; omega
                      case rel => exact ⟨(wrap64 (x5_1 - 1)), (by first | rfl | (simp; done) | (simp [*]; done)), H', ⟨by have := HK1.out; omega⟩, by repeat (first | exact Drawn0.refl _ | apply Drawn0.step)⟩
                · rw [if_neg c8] at H
                  exact absurd H (by simp)
              · rw [if_neg c7] at H
                exact absurd H (by simp)
            · rw [if_neg c6] at H
              exact absurd H (by simp)
          · rw [if_neg c5] at H
            have c5b0 : decide (0 ≤ x5_1) = false := decide_eq_false c5
            clear c5
            obtain rfl := Option.some.inj H
            go_wp2
            repeat (go_quiet (fail); try go_wp2)
            go_ret
            exact ⟨by first | rfl | (simp; done) | (simp [*]; done), by repeat (first | exact Drawn0.refl _ | apply Drawn0.step)⟩

/-! ### spec_same: function 32 -/
def spec_same.f (k : Nat) (a0_0 : Bool) (l0_1 : List Int) (l0_2 : List Int) (a1_0 : Bool) (l1_1 : List Int) (l1_2 : List Int) : Option (Bool) := if (a0_0 == a1_0) = true then ((spec_Cmp.f k l0_1 l1_1).bind fun t165 => (if t165 = 0 then ((spec_Cmp.f k l0_2 l1_2).bind fun t166 => (some (t166 == 0))) else (some false))) else (some false)
theorem spec_same.mono : ∀ a0 a1 a2 a3 a4 a5 k, LeO (spec_same.f k a0 a1 a2 a3 a4 a5) (spec_same.f (k + 1) a0 a1 a2 a3 a4 a5) := by
  intro a0 a1 a2 a3 a4 a5 k
  unfold spec_same.f
  repeat' first
      | (with_reducible exact spec_Cmp.mono _ _ _)
      | (with_reducible exact LeO.refl _)
      | (with_reducible exact LeO.none _)
      | (with_reducible refine LeO.ite ?_ ?_)
      | (with_reducible refine LeO.bind ?_ (fun _ => ?_))
      | exact spec_Cmp.mono _ _ _
      | exact LeO.none _
      | refine LeO.ite ?_ ?_
      | refine LeO.bind ?_ (fun _ => ?_)
set_option maxHeartbeats 8000000 in
set_option maxRecDepth 100000 in
theorem spec_same.calls (k : Nat) (a0_0 : Bool) (A0_1 : Option Addr) (c0_1 : Nat) (l0_1 : List Int) (A0_2 : Option Addr) (c0_2 : Nat) (l0_2 : List Int) (a1_0 : Bool) (A1_1 : Option Addr) (c1_1 : Nat) (l1_1 : List Int) (A1_2 : Option Addr) (c1_2 : Nat) (l1_2 : List Int) (r : Bool) (w : World) (hr0_1 : Kd.C (Kd.int .i64) w A0_1 l0_1.length l0_1) (hc0_1 : l0_1.length ≤ c0_1) (hr0_2 : Kd.C (Kd.int .i64) w A0_2 l0_2.length l0_2) (hc0_2 : l0_2.length ≤ c0_2) (hr1_1 : Kd.C (Kd.int .i64) w A1_1 l1_1.length l1_1) (hc1_1 : l1_1.length ≤ c1_1) (hr1_2 : Kd.C (Kd.int .i64) w A1_2 l1_2.length l1_2) (hc1_2 : l1_2.length ≤ c1_2) (h : spec_same.f k a0_0 l0_1 l0_2 a1_0 l1_1 l1_2 = some r) :
    Calls Tryz.prog 32 #[.agg #[.bool a0_0, .slice A0_1 l0_1.length c0_1, .slice A0_2 l0_2.length c0_2], .agg #[.bool a1_0, .slice A1_1 l1_1.length c1_1, .slice A1_2 l1_2.length c1_2]] w fun e w' => e = .returned (.bool r) ∧ Below w.heap.size w w' := by
  have hu45 := Tryz.underlying45
  have HR0_1 := Aside0.mk hr0_1
  have HC0_1 := Aside0.mk hc0_1
  clear hr0_1 hc0_1
  have HR0_2 := Aside0.mk hr0_2
  have HC0_2 := Aside0.mk hc0_2
  clear hr0_2 hc0_2
  have HR1_1 := Aside0.mk hr1_1
  have HC1_1 := Aside0.mk hc1_1
  clear hr1_1 hc1_1
  have HR1_2 := Aside0.mk hr1_2
  have HC1_2 := Aside0.mk hc1_2
  clear hr1_2 hc1_2
  have HB := Aside0.mk (Below.refl w.heap.size w)
  have H : (if (a0_0 == a1_0) = true then ((spec_Cmp.f k l0_1 l1_1).bind fun t165 => (if t165 = 0 then ((spec_Cmp.f k l0_2 l1_2).bind fun t166 => (some (t166 == 0))) else (some false))) else (some false)) = some r := h
  clear h
  by_cases c3 : (a0_0 == a1_0) = true
  · rw [if_pos c3] at H
    have c3b0 : (a0_0 == a1_0) = true := c3
    (try (have c3b1 : decide (a0_0 = a1_0) = true := by simpa using c3))
    (try (have c3b2 : (a0_0 == a1_0) = true := by simpa using c3))
    clear c3
    replace H := Option.bind_eq_some_iff.mp H
    obtain ⟨t165, A40, H⟩ := H
    replace H : (if t165 = 0 then ((spec_Cmp.f k l0_2 l1_2).bind fun t166 => (some (t166 == 0))) else (some false)) = some r := H
    have A4 := Aside0.mk A40
    clear A40
    by_cases c5 : t165 = 0
    · rw [if_pos c5] at H
      have c5b0 : (t165 == 0) = true := beq_iff_eq.mpr c5
      have c5b1 : (t165 != 0) = false := bne_eq_false_iff_eq.mpr c5
      clear c5
      replace H := Option.bind_eq_some_iff.mp H
      obtain ⟨t166, A60, H⟩ := H
      replace H : (some (t166 == 0)) = some r := H
      have A6 := Aside0.mk A60
      clear A60
      obtain rfl := Option.some.inj H
      go_enter Tryz.func32, Tryz.ntmps32
      go_wp2_with (first | ((with_reducible refine gate_dst (N := 2) rfl ?_); refine box_event ?hg (N := 2) ?hd (cs := #[.bool a0_0, .slice A0_1 l0_1.length c0_1, .slice A0_2 l0_2.length c0_2]) (t := 45) ?hr ?_; (case hd => rfl); (case hg => rfl); (case hr => first | (go_simp; done) | (go_simp; rfl)); intro gb163 hg w7 hbox hb; have n0_ := Aside0.mk (below_step (by repeat (first | (with_reducible first | exact HB.out | apply below_alloc | apply pw_below_drewN | apply below_drew1) | exact HB.out)) hb); have n1_ := Aside0.mk (hbox); have n2_ := Aside0.mk ((by rw [hg]; exact (below_size (by repeat (first | (with_reducible first | exact HB.out | apply below_alloc | apply pw_below_drewN | apply below_drew1) | exact HB.out))) : w.heap.size ≤ gb163)); have n3_ := Aside0.mk ((by rw [hg]; exact (below_size (by repeat (first | (with_reducible first | exact HB.out | apply below_alloc | apply pw_below_drewN | apply below_drew1) | exact HB.out))) : w.heap.size ≤ gb163)); clear HB; have HB := n0_; have BK163 := n1_; have GW163 := n2_; have GE163 := n3_; clear n0_ n1_ n2_ n3_; clear hb hbox hg) | ((with_reducible refine gate_dst (N := 3) rfl ?_); refine box_event ?hg (N := 3) ?hd (cs := #[.bool a1_0, .slice A1_1 l1_1.length c1_1, .slice A1_2 l1_2.length c1_2]) (t := 45) ?hr ?_; (case hd => rfl); (case hg => rfl); (case hr => first | (go_simp; done) | (go_simp; rfl)); intro gb164 hg w8 hbox hb; have n0_ := Aside0.mk (blk_below (g := gb163) (o := .cells #[.bool a0_0, .slice A0_1 l0_1.length c0_1, .slice A0_2 l0_2.length c0_2] 45 (0, 0)) (by (with_reducible repeat (first | refine blk_drewN ?_ _ | refine blk_drew ?_ | refine blk_alloc ?_ _)); exact BK163.out) hb); have n1_ := Aside0.mk (below_step (by repeat (first | (with_reducible first | exact HB.out | apply below_alloc | apply pw_below_drewN | apply below_drew1 | refine below_set ?_ GE163.out) | exact HB.out)) hb); have n2_ := Aside0.mk (hbox); have n3_ := Aside0.mk ((by rw [hg]; exact (below_size (by repeat (first | (with_reducible first | exact HB.out | apply below_alloc | apply pw_below_drewN | apply below_drew1 | refine below_set ?_ GE163.out) | exact HB.out))) : w.heap.size ≤ gb164)); have n4_ := Aside0.mk ((by rw [hg]; exact (below_size (by repeat (first | (with_reducible first | exact HB.out | apply below_alloc | apply pw_below_drewN | apply below_drew1 | refine below_set ?_ GE163.out) | exact HB.out))) : w.heap.size ≤ gb164)); have n5_ := Aside0.mk ((by rw [hg]; exact Nat.ne_of_lt (blk_lt (g := gb163) (o := .cells #[.bool a0_0, .slice A0_1 l0_1.length c0_1, .slice A0_2 l0_2.length c0_2] 45 (0, 0)) (by (with_reducible repeat (first | refine blk_drewN ?_ _ | refine blk_drew ?_ | refine blk_alloc ?_ _)); exact BK163.out)) : gb163 ≠ gb164)); have n6_ := Aside0.mk ((by rw [hg]; exact Nat.ne_of_gt (blk_lt (g := gb163) (o := .cells #[.bool a0_0, .slice A0_1 l0_1.length c0_1, .slice A0_2 l0_2.length c0_2] 45 (0, 0)) (by (with_reducible repeat (first | refine blk_drewN ?_ _ | refine blk_drew ?_ | refine blk_alloc ?_ _)); exact BK163.out)) : gb164 ≠ gb163)); clear BK163; clear HB; have BK163 := n0_; have HB := n1_; have BK164 := n2_; have GW164 := n3_; have GE164 := n4_; have NB163_164 := n5_; have NB164_163 := n6_; clear n0_ n1_ n2_ n3_ n4_ n5_ n6_; clear hb hbox hg; have hnb9 := NB163_164.out; have hnc9 := NB164_163.out; have hcz10_0 : w8.cell? ⟨gb163, 0, none⟩ = some (.bool a0_0) := (blk_cell BK163.out 0).trans rfl; have hcz10_1 : w8.cell? ⟨gb163, 1, none⟩ = some (.slice A0_1 l0_1.length c0_1) := (blk_cell BK163.out 1).trans rfl; have hcz10_2 : w8.cell? ⟨gb163, 2, none⟩ = some (.slice A0_2 l0_2.length c0_2) := (blk_cell BK163.out 2).trans rfl; have hfz10_0 := blk_frozen BK163.out 0; have hfz10_1 := blk_frozen BK163.out 1; have hfz10_2 := blk_frozen BK163.out 2; have hcz11_0 : w8.cell? ⟨gb164, 0, none⟩ = some (.bool a1_0) := (blk_cell BK164.out 0).trans rfl; have hcz11_1 : w8.cell? ⟨gb164, 1, none⟩ = some (.slice A1_1 l1_1.length c1_1) := (blk_cell BK164.out 1).trans rfl; have hcz11_2 : w8.cell? ⟨gb164, 2, none⟩ = some (.slice A1_2 l1_2.length c1_2) := (blk_cell BK164.out 2).trans rfl; have hfz11_0 := blk_frozen BK164.out 0; have hfz11_1 := blk_frozen BK164.out 1; have hfz11_2 := blk_frozen BK164.out 2) | (go_at_call 91; (with_reducible refine (spec_Cmp.calls k _ _ l0_1 _ _ l1_1 t165 _ ?side1 ?side2 ?side3 ?side4 A4.out).mono ?_); (case side1 => repeat (first | exact (Kd.C_below HR0_1.out HB.out) | (with_reducible refine Kd.C_alloc ?_ _) | (with_reducible refine Kd.C_drewN ?_ _) | (with_reducible refine Kd.C_drew ?_))); (case side2 => exact HC0_1.out); (case side3 => repeat (first | exact (Kd.C_below HR1_1.out HB.out) | (with_reducible refine Kd.C_alloc ?_ _) | (with_reducible refine Kd.C_drewN ?_ _) | (with_reducible refine Kd.C_drew ?_))); (case side4 => exact HC1_1.out); rintro e w' ⟨rfl, ⟨nd, rfl⟩⟩) | (go_at_call 91; (with_reducible refine (spec_Cmp.calls k _ _ l0_2 _ _ l1_2 t166 _ ?side1 ?side2 ?side3 ?side4 A6.out).mono ?_); (case side1 => repeat (first | exact (Kd.C_below HR0_2.out (by repeat (first | (with_reducible first | exact HB.out | apply below_alloc | apply pw_below_drewN | apply below_drew1 | refine below_set ?_ GE163.out | refine below_set ?_ GE164.out) | exact HB.out))) | (with_reducible refine Kd.C_alloc ?_ _) | (with_reducible refine Kd.C_drewN ?_ _) | (with_reducible refine Kd.C_drew ?_))); (case side2 => exact HC0_2.out); (case side3 => repeat (first | exact (Kd.C_below HR1_2.out (by repeat (first | (with_reducible first | exact HB.out | apply below_alloc | apply pw_below_drewN | apply below_drew1 | refine below_set ?_ GE163.out | refine below_set ?_ GE164.out) | exact HB.out))) | (with_reducible refine Kd.C_alloc ?_ _) | (with_reducible refine Kd.C_drewN ?_ _) | (with_reducible refine Kd.C_drew ?_))); (case side4 => exact HC1_2.out); rintro e w' ⟨rfl, ⟨nd, rfl⟩⟩))
      go_ret
      exact ⟨by first | rfl | (simp [errW_none, errW_some] <;> rfl) | (simp [*, errW_none, errW_some] <;> rfl), by repeat (first | (with_reducible first | exact HB.out | apply below_alloc | apply pw_below_drewN | apply below_drew1 | refine below_set ?_ GE163.out | refine below_set ?_ GE164.out) | exact HB.out)⟩
    · rw [if_neg c5] at H
      have c5b0 : (t165 == 0) = false := beq_eq_false_iff_ne.mpr c5
      have c5b1 : (t165 != 0) = true := bne_iff_ne.mpr c5
      obtain rfl := Option.some.inj H
      go_enter Tryz.func32, Tryz.ntmps32
      go_wp2_with (first | ((with_reducible refine gate_dst (N := 2) rfl ?_); refine box_event ?hg (N := 2) ?hd (cs := #[.bool a0_0, .slice A0_1 l0_1.length c0_1, .slice A0_2 l0_2.length c0_2]) (t := 45) ?hr ?_; (case hd => rfl); (case hg => rfl); (case hr => first | (go_simp; done) | (go_simp; rfl)); intro gb163 hg w12 hbox hb; have n0_ := Aside0.mk (below_step (by repeat (first | (with_reducible first | exact HB.out | apply below_alloc | apply pw_below_drewN | apply below_drew1) | exact HB.out)) hb); have n1_ := Aside0.mk (hbox); have n2_ := Aside0.mk ((by rw [hg]; exact (below_size (by repeat (first | (with_reducible first | exact HB.out | apply below_alloc | apply pw_below_drewN | apply below_drew1) | exact HB.out))) : w.heap.size ≤ gb163)); have n3_ := Aside0.mk ((by rw [hg]; exact (below_size (by repeat (first | (with_reducible first | exact HB.out | apply below_alloc | apply pw_below_drewN | apply below_drew1) | exact HB.out))) : w.heap.size ≤ gb163)); clear HB; have HB := n0_; have BK163 := n1_; have GW163 := n2_; have GE163 := n3_; clear n0_ n1_ n2_ n3_; clear hb hbox hg) | ((with_reducible refine gate_dst (N := 3) rfl ?_); refine box_event ?hg (N := 3) ?hd (cs := #[.bool a1_0, .slice A1_1 l1_1.length c1_1, .slice A1_2 l1_2.length c1_2]) (t := 45) ?hr ?_; (case hd => rfl); (case hg => rfl); (case hr => first | (go_simp; done) | (go_simp; rfl)); intro gb164 hg w13 hbox hb; have n0_ := Aside0.mk (blk_below (g := gb163) (o := .cells #[.bool a0_0, .slice A0_1 l0_1.length c0_1, .slice A0_2 l0_2.length c0_2] 45 (0, 0)) (by (with_reducible repeat (first | refine blk_drewN ?_ _ | refine blk_drew ?_ | refine blk_alloc ?_ _)); exact BK163.out) hb); have n1_ := Aside0.mk (below_step (by repeat (first | (with_reducible first | exact HB.out | apply below_alloc | apply pw_below_drewN | apply below_drew1 | refine below_set ?_ GE163.out) | exact HB.out)) hb); have n2_ := Aside0.mk (hbox); have n3_ := Aside0.mk ((by rw [hg]; exact (below_size (by repeat (first | (with_reducible first | exact HB.out | apply below_alloc | apply pw_below_drewN | apply below_drew1 | refine below_set ?_ GE163.out) | exact HB.out))) : w.heap.size ≤ gb164)); have n4_ := Aside0.mk ((by rw [hg]; exact (below_size (by repeat (first | (with_reducible first | exact HB.out | apply below_alloc | apply pw_below_drewN | apply below_drew1 | refine below_set ?_ GE163.out) | exact HB.out))) : w.heap.size ≤ gb164)); have n5_ := Aside0.mk ((by rw [hg]; exact Nat.ne_of_lt (blk_lt (g := gb163) (o := .cells #[.bool a0_0, .slice A0_1 l0_1.length c0_1, .slice A0_2 l0_2.length c0_2] 45 (0, 0)) (by (with_reducible repeat (first | refine blk_drewN ?_ _ | refine blk_drew ?_ | refine blk_alloc ?_ _)); exact BK163.out)) : gb163 ≠ gb164)); have n6_ := Aside0.mk ((by rw [hg]; exact Nat.ne_of_gt (blk_lt (g := gb163) (o := .cells #[.bool a0_0, .slice A0_1 l0_1.length c0_1, .slice A0_2 l0_2.length c0_2] 45 (0, 0)) (by (with_reducible repeat (first | refine blk_drewN ?_ _ | refine blk_drew ?_ | refine blk_alloc ?_ _)); exact BK163.out)) : gb164 ≠ gb163)); clear BK163; clear HB; have BK163 := n0_; have HB := n1_; have BK164 := n2_; have GW164 := n3_; have GE164 := n4_; have NB163_164 := n5_; have NB164_163 := n6_; clear n0_ n1_ n2_ n3_ n4_ n5_ n6_; clear hb hbox hg; have hnb14 := NB163_164.out; have hnc14 := NB164_163.out; have hcz15_0 : w13.cell? ⟨gb163, 0, none⟩ = some (.bool a0_0) := (blk_cell BK163.out 0).trans rfl; have hcz15_1 : w13.cell? ⟨gb163, 1, none⟩ = some (.slice A0_1 l0_1.length c0_1) := (blk_cell BK163.out 1).trans rfl; have hcz15_2 : w13.cell? ⟨gb163, 2, none⟩ = some (.slice A0_2 l0_2.length c0_2) := (blk_cell BK163.out 2).trans rfl; have hfz15_0 := blk_frozen BK163.out 0; have hfz15_1 := blk_frozen BK163.out 1; have hfz15_2 := blk_frozen BK163.out 2; have hcz16_0 : w13.cell? ⟨gb164, 0, none⟩ = some (.bool a1_0) := (blk_cell BK164.out 0).trans rfl; have hcz16_1 : w13.cell? ⟨gb164, 1, none⟩ = some (.slice A1_1 l1_1.length c1_1) := (blk_cell BK164.out 1).trans rfl; have hcz16_2 : w13.cell? ⟨gb164, 2, none⟩ = some (.slice A1_2 l1_2.length c1_2) := (blk_cell BK164.out 2).trans rfl; have hfz16_0 := blk_frozen BK164.out 0; have hfz16_1 := blk_frozen BK164.out 1; have hfz16_2 := blk_frozen BK164.out 2) | (go_at_call 91; (with_reducible refine (spec_Cmp.calls k _ _ l0_1 _ _ l1_1 t165 _ ?side1 ?side2 ?side3 ?side4 A4.out).mono ?_); (case side1 => repeat (first | exact (Kd.C_below HR0_1.out HB.out) | (with_reducible refine Kd.C_alloc ?_ _) | (with_reducible refine Kd.C_drewN ?_ _) | (with_reducible refine Kd.C_drew ?_))); (case side2 => exact HC0_1.out); (case side3 => repeat (first | exact (Kd.C_below HR1_1.out HB.out) | (with_reducible refine Kd.C_alloc ?_ _) | (with_reducible refine Kd.C_drewN ?_ _) | (with_reducible refine Kd.C_drew ?_))); (case side4 => exact HC1_1.out); rintro e w' ⟨rfl, ⟨nd, rfl⟩⟩))
      go_ret
      exact ⟨by first | rfl | (simp [errW_none, errW_some] <;> rfl) | (simp [*, errW_none, errW_some] <;> rfl), by repeat (first | (with_reducible first | exact HB.out | apply below_alloc | apply pw_below_drewN | apply below_drew1 | refine below_set ?_ GE163.out | refine below_set ?_ GE164.out) | exact HB.out)⟩
  · rw [if_neg c3] at H
    have c3b0 : (a0_0 == a1_0) = false := by simpa using c3
    (try (have c3b1 : decide (a0_0 = a1_0) = false := by simpa using c3))
    (try (have c3b2 : (a0_0 == a1_0) = false := by simpa using c3))
    (try (have c3b3 : ¬ (a0_0 = a1_0) := by simpa using c3))
    clear c3
    obtain rfl := Option.some.inj H
    go_enter Tryz.func32, Tryz.ntmps32
    go_wp2_with (first | ((with_reducible refine gate_dst (N := 2) rfl ?_); refine box_event ?hg (N := 2) ?hd (cs := #[.bool a0_0, .slice A0_1 l0_1.length c0_1, .slice A0_2 l0_2.length c0_2]) (t := 45) ?hr ?_; (case hd => rfl); (case hg => rfl); (case hr => first | (go_simp; done) | (go_simp; rfl)); intro gb163 hg w17 hbox hb; have n0_ := Aside0.mk (below_step (by repeat (first | (with_reducible first | exact HB.out | apply below_alloc | apply pw_below_drewN | apply below_drew1) | exact HB.out)) hb); have n1_ := Aside0.mk (hbox); have n2_ := Aside0.mk ((by rw [hg]; exact (below_size (by repeat (first | (with_reducible first | exact HB.out | apply below_alloc | apply pw_below_drewN | apply below_drew1) | exact HB.out))) : w.heap.size ≤ gb163)); have n3_ := Aside0.mk ((by rw [hg]; exact (below_size (by repeat (first | (with_reducible first | exact HB.out | apply below_alloc | apply pw_below_drewN | apply below_drew1) | exact HB.out))) : w.heap.size ≤ gb163)); clear HB; have HB := n0_; have BK163 := n1_; have GW163 := n2_; have GE163 := n3_; clear n0_ n1_ n2_ n3_; clear hb hbox hg) | ((with_reducible refine gate_dst (N := 3) rfl ?_); refine box_event ?hg (N := 3) ?hd (cs := #[.bool a1_0, .slice A1_1 l1_1.length c1_1, .slice A1_2 l1_2.length c1_2]) (t := 45) ?hr ?_; (case hd => rfl); (case hg => rfl); (case hr => first | (go_simp; done) | (go_simp; rfl)); intro gb164 hg w18 hbox hb; have n0_ := Aside0.mk (blk_below (g := gb163) (o := .cells #[.bool a0_0, .slice A0_1 l0_1.length c0_1, .slice A0_2 l0_2.length c0_2] 45 (0, 0)) (by (with_reducible repeat (first | refine blk_drewN ?_ _ | refine blk_drew ?_ | refine blk_alloc ?_ _)); exact BK163.out) hb); have n1_ := Aside0.mk (below_step (by repeat (first | (with_reducible first | exact HB.out | apply below_alloc | apply pw_below_drewN | apply below_drew1 | refine below_set ?_ GE163.out) | exact HB.out)) hb); have n2_ := Aside0.mk (hbox); have n3_ := Aside0.mk ((by rw [hg]; exact (below_size (by repeat (first | (with_reducible first | exact HB.out | apply below_alloc | apply pw_below_drewN | apply below_drew1 | refine below_set ?_ GE163.out) | exact HB.out))) : w.heap.size ≤ gb164)); have n4_ := Aside0.mk ((by rw [hg]; exact (below_size (by repeat (first | (with_reducible first | exact HB.out | apply below_alloc | apply pw_below_drewN | apply below_drew1 | refine below_set ?_ GE163.out) | exact HB.out))) : w.heap.size ≤ gb164)); have n5_ := Aside0.mk ((by rw [hg]; exact Nat.ne_of_lt (blk_lt (g := gb163) (o := .cells #[.bool a0_0, .slice A0_1 l0_1.length c0_1, .slice A0_2 l0_2.length c0_2] 45 (0, 0)) (by (with_reducible repeat (first | refine blk_drewN ?_ _ | refine blk_drew ?_ | refine blk_alloc ?_ _)); exact BK163.out)) : gb163 ≠ gb164)); have n6_ := Aside0.mk ((by rw [hg]; exact Nat.ne_of_gt (blk_lt (g := gb163) (o := .cells #[.bool a0_0, .slice A0_1 l0_1.length c0_1, .slice A0_2 l0_2.length c0_2] 45 (0, 0)) (by (with_reducible repeat (first | refine blk_drewN ?_ _ | refine blk_drew ?_ | refine blk_alloc ?_ _)); exact BK163.out)) : gb164 ≠ gb163)); clear BK163; clear HB; have BK163 := n0_; have HB := n1_; have BK164 := n2_; have GW164 := n3_; have GE164 := n4_; have NB163_164 := n5_; have NB164_163 := n6_; clear n0_ n1_ n2_ n3_ n4_ n5_ n6_; clear hb hbox hg; have hnb19 := NB163_164.out; have hnc19 := NB164_163.out; have hcz20_0 : w18.cell? ⟨gb163, 0, none⟩ = some (.bool a0_0) := (blk_cell BK163.out 0).trans rfl; have hcz20_1 : w18.cell? ⟨gb163, 1, none⟩ = some (.slice A0_1 l0_1.length c0_1) := (blk_cell BK163.out 1).trans rfl; have hcz20_2 : w18.cell? ⟨gb163, 2, none⟩ = some (.slice A0_2 l0_2.length c0_2) := (blk_cell BK163.out 2).trans rfl; have hfz20_0 := blk_frozen BK163.out 0; have hfz20_1 := blk_frozen BK163.out 1; have hfz20_2 := blk_frozen BK163.out 2; have hcz21_0 : w18.cell? ⟨gb164, 0, none⟩ = some (.bool a1_0) := (blk_cell BK164.out 0).trans rfl; have hcz21_1 : w18.cell? ⟨gb164, 1, none⟩ = some (.slice A1_1 l1_1.length c1_1) := (blk_cell BK164.out 1).trans rfl; have hcz21_2 : w18.cell? ⟨gb164, 2, none⟩ = some (.slice A1_2 l1_2.length c1_2) := (blk_cell BK164.out 2).trans rfl; have hfz21_0 := blk_frozen BK164.out 0; have hfz21_1 := blk_frozen BK164.out 1; have hfz21_2 := blk_frozen BK164.out 2))
    go_ret
    exact ⟨by first | rfl | (simp [errW_none, errW_some] <;> rfl) | (simp [*, errW_none, errW_some] <;> rfl), by repeat (first | (with_reducible first | exact HB.out | apply below_alloc | apply pw_below_drewN | apply below_drew1 | refine below_set ?_ GE163.out | refine below_set ?_ GE164.out) | exact HB.out)⟩

/-! ### strconv_unhex: function 165 -/
mutual
def strconv_unhex.j0 : Nat → Int → Bool → Int → Bool → Option (Int × Bool)
  | 0, _, _, _, _ => none
  | k + 1, x2, x3, x4, x7 => if x7 = true then (some (wrap32 (x4 - 48), true)) else (if 97 ≤ x4 then (strconv_unhex.j1 k x2 x3 x4 (decide (x4 ≤ 102))) else (strconv_unhex.j1 k x2 x3 x4 false))
def strconv_unhex.j1 : Nat → Int → Bool → Int → Bool → Option (Int × Bool)
  | 0, _, _, _, _ => none
  | k + 1, x2, x3, x4, x16 => if x16 = true then (some (wrap32 ((wrap32 (x4 - 97)) + 10), true)) else (if 65 ≤ x4 then (if x4 ≤ 70 then (some (wrap32 ((wrap32 (x4 - 65)) + 10), true)) else (some (x2, x3))) else (some (x2, x3)))
end
def strconv_unhex.f (k : Nat) (a0 : Int) : Option (Int × Bool) := if 48 ≤ (wrap32 (a0)) then (strconv_unhex.j0 k 0 false (wrap32 (a0)) (decide ((wrap32 (a0)) ≤ 57))) else (strconv_unhex.j0 k 0 false (wrap32 (a0)) false)
theorem strconv_unhex.mono_l : ∀ k, (∀ y0 y1 y2 y3, LeO (strconv_unhex.j0 k y0 y1 y2 y3) (strconv_unhex.j0 (k + 1) y0 y1 y2 y3)) ∧ (∀ y0 y1 y2 y3, LeO (strconv_unhex.j1 k y0 y1 y2 y3) (strconv_unhex.j1 (k + 1) y0 y1 y2 y3))
  | 0 => ⟨fun _ _ _ _ r h => by simp [strconv_unhex.j0] at h, fun _ _ _ _ r h => by simp [strconv_unhex.j1] at h⟩
  | k + 1 => by
    obtain ⟨ih0, ih1⟩ := strconv_unhex.mono_l k
    refine ⟨?_, ?_⟩
    · intro y0 y1 y2 y3
      unfold strconv_unhex.j0
      repeat' first
      | (with_reducible exact ih0 _ _ _ _)
      | (with_reducible exact ih1 _ _ _ _)
      | (with_reducible exact LeO.refl _)
      | (with_reducible exact LeO.none _)
      | (with_reducible refine LeO.ite ?_ ?_)
      | (with_reducible refine LeO.bind ?_ (fun _ => ?_))
      | exact ih0 _ _ _ _
      | exact ih1 _ _ _ _
      | exact LeO.none _
      | refine LeO.ite ?_ ?_
      | refine LeO.bind ?_ (fun _ => ?_)
    · intro y0 y1 y2 y3
      unfold strconv_unhex.j1
      repeat' first
      | (with_reducible exact ih0 _ _ _ _)
      | (with_reducible exact ih1 _ _ _ _)
      | (with_reducible exact LeO.refl _)
      | (with_reducible exact LeO.none _)
      | (with_reducible refine LeO.ite ?_ ?_)
      | (with_reducible refine LeO.bind ?_ (fun _ => ?_))
      | exact ih0 _ _ _ _
      | exact ih1 _ _ _ _
      | exact LeO.none _
      | refine LeO.ite ?_ ?_
      | refine LeO.bind ?_ (fun _ => ?_)
theorem strconv_unhex.mono : ∀ a0 k, LeO (strconv_unhex.f k a0) (strconv_unhex.f (k + 1) a0) := by
  intro a0 k
  obtain ⟨ih0, ih1⟩ := strconv_unhex.mono_l k
  unfold strconv_unhex.f
  repeat' first
      | (with_reducible exact ih0 _ _ _ _)
      | (with_reducible exact ih1 _ _ _ _)
      | (with_reducible exact LeO.refl _)
      | (with_reducible exact LeO.none _)
      | (with_reducible refine LeO.ite ?_ ?_)
      | (with_reducible refine LeO.bind ?_ (fun _ => ?_))
      | exact ih0 _ _ _ _
      | exact ih1 _ _ _ _
      | exact LeO.none _
      | refine LeO.ite ?_ ?_
      | refine LeO.bind ?_ (fun _ => ?_)
set_option maxHeartbeats 8000000 in
set_option maxRecDepth 100000 in
theorem strconv_unhex.calls (k : Nat) (a0 : Int) (r1 : Int) (r2 : Bool) (w : World) (h : strconv_unhex.f k a0 = some (r1, r2)) :
    Calls Tryz.prog 165 #[.int .u8 a0] w fun e w' => e = .returned (.tuple #[.int .i32 r1, .bool r2]) ∧ Drawn0 w w' := by
  have H : (if 48 ≤ (wrap32 (a0)) then (strconv_unhex.j0 k 0 false (wrap32 (a0)) (decide ((wrap32 (a0)) ≤ 57))) else (strconv_unhex.j0 k 0 false (wrap32 (a0)) false)) = some (r1, r2) := h
  clear h
  have HC2 := Aside0.mk H
  clear H
  go_enter Tryz.func165, Tryz.ntmps165
  go_upto_region 2 with (fail)
  go_cut [7] (fun v7 wc => ∃ (kq : Nat) (x7_1 : Bool), v7 = .bool x7_1 ∧ Aside0 (strconv_unhex.j0 kq 0 false (wrap32 (a0)) x7_1 = some (r1, r2)) ∧ Aside0 (kq ≤ k) ∧ Drawn0 w wc)
  case first =>
    have H := HC2.out
    clear HC2
    by_cases c3 : 48 ≤ (wrap32 (a0))
    · rw [if_pos c3] at H
      have c3b0 : decide (48 ≤ (wrap32 (a0))) = true := decide_eq_true c3
      clear c3
      (first | rw [c3b0] | (simp only [i64_w, i32_w]; rw [c3b0]) | skip)
      have H' := Aside0.mk H
      clear H
      go_wp2
      go_meet
      case rel => exact ⟨_, (decide ((wrap32 (a0)) ≤ 57)), (by first | rfl | (simp; done) | (simp [*]; done)), H', ⟨by first | omega | exact Nat.le_refl _⟩, by repeat (first | exact Drawn0.refl _ | apply Drawn0.step)⟩
    · rw [if_neg c3] at H
      have c3b0 : decide (48 ≤ (wrap32 (a0))) = false := decide_eq_false c3
      clear c3
      (first | rw [c3b0] | (simp only [i64_w, i32_w]; rw [c3b0]) | skip)
      have H' := Aside0.mk H
      clear H
      go_wp2
      go_meet
      case rel => exact ⟨_, (false), (by first | rfl | (simp; done) | (simp [*]; done)), H', ⟨by first | omega | exact Nat.le_refl _⟩, by repeat (first | exact Drawn0.refl _ | apply Drawn0.step)⟩
  case rest =>
    clear HC2
    try clear c1
    try clear p2
    try clear c3
    try clear c3b0
    try clear p3
    obtain ⟨kq, x7_1, rfl, HA, HJ1, ⟨mc1, rfl⟩⟩ := hcut
    cases kq with
    | zero => exact absurd HA.out (by simp [strconv_unhex.j0])
    | succ kj1 =>
      have H := HA.out
      clear HA
      simp only [strconv_unhex.j0] at H
      by_cases c4 : x7_1 = true
      · subst c4
        have H1 : (some (wrap32 ((wrap32 (a0)) - 48), true)) = some (r1, r2) := by rw [if_pos rfl] at H; exact H
        clear H
        have H := H1
        clear H1
        simp only [Option.some.injEq, Prod.mk.injEq] at H
        obtain ⟨rfl, rfl⟩ := H
        go_wp2
        go_ret2
        exact ⟨by first | rfl | (simp; done) | (simp [*]; done), by repeat (first | exact Drawn0.refl _ | apply Drawn0.step)⟩
      · replace c4 := Bool.eq_false_iff.mpr c4
        subst c4
        have H1 : (if 97 ≤ (wrap32 (a0)) then (strconv_unhex.j1 kj1 0 false (wrap32 (a0)) (decide ((wrap32 (a0)) ≤ 102))) else (strconv_unhex.j1 kj1 0 false (wrap32 (a0)) false)) = some (r1, r2) := by rw [if_neg (show ¬ (false = true) by decide)] at H; exact H
        clear H
        have H := H1
        clear H1
        have HC5 := Aside0.mk H
        clear H
        go_upto_region 4 with (fail)
        go_cut [16] (fun v16 wc => ∃ (kq : Nat) (x16_4 : Bool), v16 = .bool x16_4 ∧ Aside0 (strconv_unhex.j1 kq 0 false (wrap32 (a0)) x16_4 = some (r1, r2)) ∧ Aside0 (kq ≤ kj1) ∧ Drawn0 w wc)
        case first =>
          have H := HC5.out
          clear HC5
          by_cases c6 : 97 ≤ (wrap32 (a0))
          · rw [if_pos c6] at H
            have c6b0 : decide (97 ≤ (wrap32 (a0))) = true := decide_eq_true c6
            clear c6
            (first | rw [c6b0] | (simp only [i64_w, i32_w]; rw [c6b0]) | skip)
            have H' := Aside0.mk H
            clear H
            go_wp2
            go_meet
            case rel => exact ⟨_, (decide ((wrap32 (a0)) ≤ 102)), (by first | rfl | (simp; done) | (simp [*]; done)), H', ⟨by have := HJ1.out; first | omega | exact Nat.le_refl _⟩, by repeat (first | exact Drawn0.refl _ | apply Drawn0.step)⟩
          · rw [if_neg c6] at H
            have c6b0 : decide (97 ≤ (wrap32 (a0))) = false := decide_eq_false c6
            clear c6
            (first | rw [c6b0] | (simp only [i64_w, i32_w]; rw [c6b0]) | skip)
            have H' := Aside0.mk H
            clear H
            go_wp2
            go_meet
            case rel => exact ⟨_, (false), (by first | rfl | (simp; done) | (simp [*]; done)), H', ⟨by have := HJ1.out; first | omega | exact Nat.le_refl _⟩, by repeat (first | exact Drawn0.refl _ | apply Drawn0.step)⟩
        case rest =>
          clear HC5
          try clear c1
          try clear p2
          try clear c3
          try clear c3b0
          try clear p3
          try clear c4
          try clear c6
          try clear c6b0
          try clear p2
          try clear p3
          obtain ⟨kq, x16_4, rfl, HA, HJ4, ⟨mc4, rfl⟩⟩ := hcut
          cases kq with
          | zero => exact absurd HA.out (by simp [strconv_unhex.j1])
          | succ kj4 =>
            have H := HA.out
            clear HA
            simp only [strconv_unhex.j1] at H
            by_cases c7 : x16_4 = true
            · subst c7
              have H1 : (some (wrap32 ((wrap32 ((wrap32 (a0)) - 97)) + 10), true)) = some (r1, r2) := by rw [if_pos rfl] at H; exact H
              clear H
              have H := H1
              clear H1
              simp only [Option.some.injEq, Prod.mk.injEq] at H
              obtain ⟨rfl, rfl⟩ := H
              go_wp2
              go_ret2
              exact ⟨by first | rfl | (simp; done) | (simp [*]; done), by repeat (first | exact Drawn0.refl _ | apply Drawn0.step)⟩
            · replace c7 := Bool.eq_false_iff.mpr c7
              subst c7
              have H1 : (if 65 ≤ (wrap32 (a0)) then (if (wrap32 (a0)) ≤ 70 then (some (wrap32 ((wrap32 ((wrap32 (a0)) - 65)) + 10), true)) else (some (0, false))) else (some (0, false))) = some (r1, r2) := by rw [if_neg (show ¬ (false = true) by decide)] at H; exact H
              clear H
              have H := H1
              clear H1
              by_cases c8 : 65 ≤ (wrap32 (a0))
              · rw [if_pos c8] at H
                have c8b0 : decide (65 ≤ (wrap32 (a0))) = true := decide_eq_true c8
                clear c8
                by_cases c9 : (wrap32 (a0)) ≤ 70
                · rw [if_pos c9] at H
                  have c9b0 : decide ((wrap32 (a0)) ≤ 70) = true := decide_eq_true c9
                  clear c9
                  simp only [Option.some.injEq, Prod.mk.injEq] at H
                  obtain ⟨rfl, rfl⟩ := H
                  go_wp2
                  go_ret2
                  exact ⟨by first | rfl | (simp; done) | (simp [*]; done), by repeat (first | exact Drawn0.refl _ | apply Drawn0.step)⟩
                · rw [if_neg c9] at H
                  have c9b0 : decide ((wrap32 (a0)) ≤ 70) = false := decide_eq_false c9
                  clear c9
                  simp only [Option.some.injEq, Prod.mk.injEq] at H
                  obtain ⟨rfl, rfl⟩ := H
                  go_wp2
                  go_ret2
                  exact ⟨by first | rfl | (simp; done) | (simp [*]; done), by repeat (first | exact Drawn0.refl _ | apply Drawn0.step)⟩
              · rw [if_neg c8] at H
                have c8b0 : decide (65 ≤ (wrap32 (a0))) = false := decide_eq_false c8
                clear c8
                simp only [Option.some.injEq, Prod.mk.injEq] at H
                obtain ⟨rfl, rfl⟩ := H
                go_wp2
                go_ret2
                exact ⟨by first | rfl | (simp; done) | (simp [*]; done), by repeat (first | exact Drawn0.refl _ | apply Drawn0.step)⟩

/-! ### utf8_ValidRune: function 166 -/
def utf8_ValidRune.j0 : Nat → Int → Bool → Option (Bool)
  | 0, _, _ => none
  | k + 1, x0, x3 => if x3 = true then (some true) else (if 57343 < x0 then (if x0 ≤ 1114111 then (some true) else (some false)) else (some false))
def utf8_ValidRune.f (k : Nat) (a0 : Int) : Option (Bool) := if 0 ≤ a0 then (utf8_ValidRune.j0 k a0 (decide (a0 < 55296))) else (utf8_ValidRune.j0 k a0 false)
theorem utf8_ValidRune.mono_l : ∀ k, (∀ y0 y1, LeO (utf8_ValidRune.j0 k y0 y1) (utf8_ValidRune.j0 (k + 1) y0 y1))
  | 0 => fun _ _ r h => by simp [utf8_ValidRune.j0] at h
  | k + 1 => by
    have ih0 := utf8_ValidRune.mono_l k
    · intro y0 y1
      unfold utf8_ValidRune.j0
      repeat' first
      | (with_reducible exact ih0 _ _)
      | (with_reducible exact LeO.refl _)
      | (with_reducible exact LeO.none _)
      | (with_reducible refine LeO.ite ?_ ?_)
      | (with_reducible refine LeO.bind ?_ (fun _ => ?_))
      | exact ih0 _ _
      | exact LeO.none _
      | refine LeO.ite ?_ ?_
      | refine LeO.bind ?_ (fun _ => ?_)
theorem utf8_ValidRune.mono : ∀ a0 k, LeO (utf8_ValidRune.f k a0) (utf8_ValidRune.f (k + 1) a0) := by
  intro a0 k
  have ih0 := utf8_ValidRune.mono_l k
  unfold utf8_ValidRune.f
  repeat' first
      | (with_reducible exact ih0 _ _)
      | (with_reducible exact LeO.refl _)
      | (with_reducible exact LeO.none _)
      | (with_reducible refine LeO.ite ?_ ?_)
      | (with_reducible refine LeO.bind ?_ (fun _ => ?_))
      | exact ih0 _ _
      | exact LeO.none _
      | refine LeO.ite ?_ ?_
      | refine LeO.bind ?_ (fun _ => ?_)
set_option maxHeartbeats 8000000 in
set_option maxRecDepth 100000 in
theorem utf8_ValidRune.calls (k : Nat) (a0 : Int) (r : Bool) (w : World) (h : utf8_ValidRune.f k a0 = some r) :
    Calls Tryz.prog 166 #[.int .i32 a0] w fun e w' => e = .returned (.bool r) ∧ Drawn0 w w' := by
  have H : (if 0 ≤ a0 then (utf8_ValidRune.j0 k a0 (decide (a0 < 55296))) else (utf8_ValidRune.j0 k a0 false)) = some r := h
  clear h
  have HC2 := Aside0.mk H
  clear H
  go_enter Tryz.func166, Tryz.ntmps166
  go_upto_region 1 with (fail)
  go_cut [3] (fun v3 wc => ∃ (kq : Nat) (x3_1 : Bool), v3 = .bool x3_1 ∧ Aside0 (utf8_ValidRune.j0 kq a0 x3_1 = some r) ∧ Aside0 (kq ≤ k) ∧ Drawn0 w wc)
  case first =>
    have H := HC2.out
    clear HC2
    by_cases c3 : 0 ≤ a0
    · rw [if_pos c3] at H
      have c3b0 : decide (0 ≤ a0) = true := decide_eq_true c3
      clear c3
      (first | rw [c3b0] | (simp only [i64_w, i32_w]; rw [c3b0]) | skip)
      have H' := Aside0.mk H
      clear H
      go_wp2
      go_meet
      case rel => exact ⟨_, (decide (a0 < 55296)), (by first | rfl | (simp; done) | (simp [*]; done)), H', ⟨by first | omega | exact Nat.le_refl _⟩, by repeat (first | exact Drawn0.refl _ | apply Drawn0.step)⟩
    · rw [if_neg c3] at H
      have c3b0 : decide (0 ≤ a0) = false := decide_eq_false c3
      clear c3
      (first | rw [c3b0] | (simp only [i64_w, i32_w]; rw [c3b0]) | skip)
      have H' := Aside0.mk H
      clear H
      go_wp2
      go_meet
      case rel => exact ⟨_, (false), (by first | rfl | (simp; done) | (simp [*]; done)), H', ⟨by first | omega | exact Nat.le_refl _⟩, by repeat (first | exact Drawn0.refl _ | apply Drawn0.step)⟩
  case rest =>
    clear HC2
    try clear c1
    try clear p2
    try clear c3
    try clear c3b0
    obtain ⟨kq, x3_1, rfl, HA, HJ1, ⟨mc1, rfl⟩⟩ := hcut
    cases kq with
    | zero => exact absurd HA.out (by simp [utf8_ValidRune.j0])
    | succ kj1 =>
      have H := HA.out
      clear HA
      simp only [utf8_ValidRune.j0] at H
      by_cases c4 : x3_1 = true
      · subst c4
        have H1 : (some true) = some r := by rw [if_pos rfl] at H; exact H
        clear H
        have H := H1
        clear H1
        obtain rfl := Option.some.inj H
        go_wp2
        go_ret
        exact ⟨by first | rfl | (simp; done) | (simp [*]; done), by repeat (first | exact Drawn0.refl _ | apply Drawn0.step)⟩
      · replace c4 := Bool.eq_false_iff.mpr c4
        subst c4
        have H1 : (if 57343 < a0 then (if a0 ≤ 1114111 then (some true) else (some false)) else (some false)) = some r := by rw [if_neg (show ¬ (false = true) by decide)] at H; exact H
        clear H
        have H := H1
        clear H1
        by_cases c5 : 57343 < a0
        · rw [if_pos c5] at H
          have c5b0 : decide (57343 < a0) = true := decide_eq_true c5
          clear c5
          by_cases c6 : a0 ≤ 1114111
          · rw [if_pos c6] at H
            have c6b0 : decide (a0 ≤ 1114111) = true := decide_eq_true c6
            clear c6
            obtain rfl := Option.some.inj H
            go_wp2
            go_ret
            exact ⟨by first | rfl | (simp; done) | (simp [*]; done), by repeat (first | exact Drawn0.refl _ | apply Drawn0.step)⟩
          · rw [if_neg c6] at H
            have c6b0 : decide (a0 ≤ 1114111) = false := decide_eq_false c6
            clear c6
            obtain rfl := Option.some.inj H
            go_wp2
            go_ret
            exact ⟨by first | rfl | (simp; done) | (simp [*]; done), by repeat (first | exact Drawn0.refl _ | apply Drawn0.step)⟩
        · rw [if_neg c5] at H
          have c5b0 : decide (57343 < a0) = false := decide_eq_false c5
          clear c5
          obtain rfl := Option.some.inj H
          go_wp2
          go_ret
          exact ⟨by first | rfl | (simp; done) | (simp [*]; done), by repeat (first | exact Drawn0.refl _ | apply Drawn0.step)⟩

/-- THE ONE PURE STATEMENT of utf8_ValidRune: yours. -/
def utf8_ValidRune.Pure : Prop := ∀ (a0 : Int), (Lit.int .i32 a0).wf = true → ∃ k, utf8_ValidRune.f k a0 = some true
theorem utf8_ValidRune.walk (P : utf8_ValidRune.Pure) (a0 : Int) (w : World) (w0 : (Lit.int .i32 a0).wf = true) :
    Calls Tryz.prog 166 #[.int .i32 a0] w fun e w' => e = .returned (.bool true) ∧ Below w.heap.size w w' := by
  obtain ⟨k, h⟩ := P a0 w0
  refine (utf8_ValidRune.calls k a0 true w h).mono ?_
  rintro e w' ⟨rfl, hd⟩
  exact ⟨rfl, hd.below⟩

end Go.Proofs.YtfppllbmieenfaaGreatDoor.Ps

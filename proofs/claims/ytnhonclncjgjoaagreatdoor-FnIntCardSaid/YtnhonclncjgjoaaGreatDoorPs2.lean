-- PRINTED by print.py (a twelfth state) out of the translation. Not trusted: Lean checks it.
import Derived.Test.YtnhonclncjgjoaaGreatDoorPs0
import Derived.Test.YtnhonclncjgjoaaGreatDoorPs1
namespace Go.Proofs.YtnhonclncjgjoaaGreatDoor.Ps
open Go.RowKit Go.Proofs.YtnhonclncjgjoaaGreatDoorW.PrintWords Go.Proofs.YtnhonclncjgjoaaGreatDoorW.PrintLast Go.Proofs.YtnhonclncjgjoaaGreatDoorW.PrintMore
attribute [local go_sem] max2_int min2_int max_two min_two max_three min_three max_four min_four   -- for this text's walks alone
set_option linter.unusedVariables false
set_option linter.unusedSimpArgs false

/-! ### spec_Cmp: function 38 -/
def spec_Cmp.l0 : Nat → List Int → List Int → Int → Option (Int)
  | 0, _, _, _ => none
  | k + 1, x0, x1, x5 => if x5 ≥ 0 then (if 0 ≤ x5 then (if x5 < (x0.length : Int) then (if x5 < (x1.length : Int) then (if (rd x0 x5) < (rd x1 x5) then (some (-1)) else (if (rd x0 x5) > (rd x1 x5) then (some 1) else (spec_Cmp.l0 k x0 x1 (wrap64 (x5 - 1))))) else (none)) else (none)) else (none)) else (some 0)
def spec_Cmp.f (k : Nat) (l0 : List Int) (l1 : List Int) : Option (Int) := if (l0.length : Int) < (l1.length : Int) then (some (-1)) else (if (l0.length : Int) > (l1.length : Int) then (some 1) else (spec_Cmp.l0 k l0 l1 (wrap64 ((l0.length : Int) - 1))))
theorem spec_Cmp.mono_l : ∀ k, (∀ y0 y1 y2, LeO (spec_Cmp.l0 k y0 y1 y2) (spec_Cmp.l0 (k + 1) y0 y1 y2))
  | 0 => fun _ _ _ r h => by simp [spec_Cmp.l0] at h
  | k + 1 => by
    have ih0 := spec_Cmp.mono_l k
    · intro y0 y1 y2
      unfold spec_Cmp.l0
      repeat' first
      | (with_reducible exact ih0 _ _ _)
      | (with_reducible exact LeO.refl _)
      | (with_reducible exact LeO.none _)
      | (with_reducible refine LeO.ite ?_ ?_)
      | (with_reducible refine LeO.bind ?_ (fun _ => ?_))
      | exact ih0 _ _ _
      | exact LeO.none _
      | refine LeO.ite ?_ ?_
      | refine LeO.bind ?_ (fun _ => ?_)
theorem spec_Cmp.mono : ∀ a0 a1 k, LeO (spec_Cmp.f k a0 a1) (spec_Cmp.f (k + 1) a0 a1) := by
  intro a0 a1 k
  have ih0 := spec_Cmp.mono_l k
  unfold spec_Cmp.f
  repeat' first
      | (with_reducible exact ih0 _ _ _)
      | (with_reducible exact LeO.refl _)
      | (with_reducible exact LeO.none _)
      | (with_reducible refine LeO.ite ?_ ?_)
      | (with_reducible refine LeO.bind ?_ (fun _ => ?_))
      | exact ih0 _ _ _
      | exact LeO.none _
      | refine LeO.ite ?_ ?_
      | refine LeO.bind ?_ (fun _ => ?_)
set_option maxHeartbeats 8000000 in
set_option maxRecDepth 100000 in
theorem spec_Cmp.calls (k : Nat) (A0 : Option Addr) (c0 : Nat) (l0 : List Int) (A1 : Option Addr) (c1 : Nat) (l1 : List Int) (r : Int) (w : World) (hr0 : Kd.C (Kd.int .i64) w A0 l0.length l0) (hc0 : l0.length ≤ c0) (hr1 : Kd.C (Kd.int .i64) w A1 l1.length l1) (hc1 : l1.length ≤ c1) (h : spec_Cmp.f k l0 l1 = some r) :
    Calls Tryz.prog 38 #[.slice A0 l0.length c0, .slice A1 l1.length c1] w fun e w' => e = .returned (.int .i64 r) ∧ Drawn0 w w' := by
  have HR0 := Aside0.mk hr0
  have HC0 := Aside0.mk hc0
  clear hr0 hc0
  have HR1 := Aside0.mk hr1
  have HC1 := Aside0.mk hc1
  clear hr1 hc1
  have H : (if (l0.length : Int) < (l1.length : Int) then (some (-1)) else (if (l0.length : Int) > (l1.length : Int) then (some 1) else (spec_Cmp.l0 k l0 l1 (wrap64 ((l0.length : Int) - 1))))) = some r := h
  clear h
  by_cases c3 : (l0.length : Int) < (l1.length : Int)
  · rw [if_pos c3] at H
    have c3b0 : decide ((l0.length : Int) < (l1.length : Int)) = true := decide_eq_true c3
    have c3b1 : decide (l0.length < l1.length) = true := decide_eq_true (Int.ofNat_lt.mp c3)
    clear c3
    obtain rfl := Option.some.inj H
    go_enter Tryz.func38, Tryz.ntmps38
    go_wp2
    repeat (go_quiet (fail); try go_wp2)
    go_ret
    exact ⟨by first | rfl | (simp; done) | (simp [*]; done), by repeat (first | exact Drawn0.refl _ | apply Drawn0.step)⟩
  · rw [if_neg c3] at H
    have c3b0 : decide ((l0.length : Int) < (l1.length : Int)) = false := decide_eq_false c3
    have c3b1 : decide (l0.length < l1.length) = false := decide_eq_false (fun h => c3 (Int.ofNat_lt.mpr h))
    clear c3
    by_cases c4 : (l0.length : Int) > (l1.length : Int)
    · rw [if_pos c4] at H
      have c4b0 : decide ((l1.length : Int) < (l0.length : Int)) = true := decide_eq_true c4
      have c4b1 : decide (l1.length < l0.length) = true := decide_eq_true (Int.ofNat_lt.mp c4)
      clear c4
      obtain rfl := Option.some.inj H
      go_enter Tryz.func38, Tryz.ntmps38
      go_wp2
      repeat (go_quiet (fail); try go_wp2)
      go_ret
      exact ⟨by first | rfl | (simp; done) | (simp [*]; done), by repeat (first | exact Drawn0.refl _ | apply Drawn0.step)⟩
    · rw [if_neg c4] at H
      have c4b0 : decide ((l1.length : Int) < (l0.length : Int)) = false := decide_eq_false c4
      have c4b1 : decide (l1.length < l0.length) = false := decide_eq_false (fun h => c4 (Int.ofNat_lt.mpr h))
      clear c4
      have H' := Aside0.mk H
      clear H
      go_enter Tryz.func38, Tryz.ntmps38
      go_wp2
      repeat (go_quiet (fail); try go_wp2)
      go_loopg [5] k (fun kq v5 w' => ∃ (x5_1 : Int), v5 = .int .i64 x5_1 ∧ Aside0 (spec_Cmp.l0 kq l0 l1 x5_1 = some r) ∧ Aside0 (kq ≤ k) ∧ Drawn0 w w')
      case atStart => exact ⟨(wrap64 ((l0.length : Int) - 1)), (by first | rfl | (simp; done) | (simp [*]; done)), H', ⟨Nat.le_refl _⟩, by repeat (first | exact Drawn0.refl _ | apply Drawn0.step)⟩
      case round =>
        clear H'
        try clear c1
        try clear p2
        try clear c3
        try clear c3b0
        try clear c3b1
        try clear c4
        try clear c4b0
        try clear c4b1
        obtain ⟨x5_1, rfl, HA, HK1, ⟨m1, rfl⟩⟩ := hrel
        cases gk with
        | zero => exact absurd HA.out (by simp [spec_Cmp.l0])
        | succ k1 =>
          have H := HA.out
          clear HA
          simp only [spec_Cmp.l0] at H
          by_cases c5 : x5_1 ≥ 0
          · rw [if_pos c5] at H
            have c5b0 : decide (0 ≤ x5_1) = true := decide_eq_true c5
            clear c5
            by_cases c6 : 0 ≤ x5_1
            · rw [if_pos c6] at H
              have c6b0 : decide (0 ≤ x5_1) = true := decide_eq_true c6
              clear c6
              by_cases c7 : x5_1 < (l0.length : Int)
              · rw [if_pos c7] at H
                have c7b0 : decide (x5_1 < (l0.length : Int)) = true := decide_eq_true c7
                clear c7
                by_cases c8 : x5_1 < (l1.length : Int)
                · rw [if_pos c8] at H
                  have c8b0 : decide (x5_1 < (l1.length : Int)) = true := decide_eq_true c8
                  clear c8
                  by_cases c9 : (rd l0 x5_1) < (rd l1 x5_1)
                  · rw [if_pos c9] at H
                    have c9b0 : decide ((rd l0 x5_1) < (rd l1 x5_1)) = true := decide_eq_true c9
                    clear c9
                    obtain rfl := Option.some.inj H
                    have p159 : 0 ≤ (x5_1 : Int) := of_decide_eq_true (by first | (with_reducible assumption) | assumption)
                    have q159 : x5_1 < (l0.length : Int) := of_decide_eq_true (by first | (with_reducible assumption) | assumption)
                    obtain ⟨ad159, e159, hx159_0⟩ := Kd.at_int HR0.out x5_1 p159 q159
                    cases e159
                    replace p159 := eq_true p159
                    replace q159 := eq_true q159
                    have p160 : 0 ≤ (x5_1 : Int) := of_decide_eq_true (by first | (with_reducible assumption) | assumption)
                    have q160 : x5_1 < (l1.length : Int) := of_decide_eq_true (by first | (with_reducible assumption) | assumption)
                    obtain ⟨ad160, e160, hx160_0⟩ := Kd.at_int HR1.out x5_1 p160 q160
                    cases e160
                    replace p160 := eq_true p160
                    replace q160 := eq_true q160
                    go_wp2
                    repeat (go_quiet (fail); try go_wp2)
                    go_ret
                    exact ⟨by first | rfl | (simp; done) | (simp [*]; done), by repeat (first | exact Drawn0.refl _ | apply Drawn0.step)⟩
                  · rw [if_neg c9] at H
                    have c9b0 : decide ((rd l0 x5_1) < (rd l1 x5_1)) = false := decide_eq_false c9
                    clear c9
                    by_cases c10 : (rd l0 x5_1) > (rd l1 x5_1)
                    · rw [if_pos c10] at H
                      have c10b0 : decide ((rd l1 x5_1) < (rd l0 x5_1)) = true := decide_eq_true c10
                      clear c10
                      obtain rfl := Option.some.inj H
                      have p159 : 0 ≤ (x5_1 : Int) := of_decide_eq_true (by first | (with_reducible assumption) | assumption)
                      have q159 : x5_1 < (l0.length : Int) := of_decide_eq_true (by first | (with_reducible assumption) | assumption)
                      obtain ⟨ad159, e159, hx159_0⟩ := Kd.at_int HR0.out x5_1 p159 q159
                      cases e159
                      replace p159 := eq_true p159
                      replace q159 := eq_true q159
                      have p160 : 0 ≤ (x5_1 : Int) := of_decide_eq_true (by first | (with_reducible assumption) | assumption)
                      have q160 : x5_1 < (l1.length : Int) := of_decide_eq_true (by first | (with_reducible assumption) | assumption)
                      obtain ⟨ad160, e160, hx160_0⟩ := Kd.at_int HR1.out x5_1 p160 q160
                      cases e160
                      replace p160 := eq_true p160
                      replace q160 := eq_true q160
                      have p161 : 0 ≤ (x5_1 : Int) := of_decide_eq_true (by first | (with_reducible assumption) | assumption)
                      have q161 : x5_1 < (l0.length : Int) := of_decide_eq_true (by first | (with_reducible assumption) | assumption)
                      obtain ⟨ad161, e161, hx161_0⟩ := Kd.at_int HR0.out x5_1 p161 q161
                      obtain rfl : ad159 = ad161 := (by injection e161)
                      replace p161 := eq_true p161
                      replace q161 := eq_true q161
                      have p162 : 0 ≤ (x5_1 : Int) := of_decide_eq_true (by first | (with_reducible assumption) | assumption)
                      have q162 : x5_1 < (l1.length : Int) := of_decide_eq_true (by first | (with_reducible assumption) | assumption)
                      obtain ⟨ad162, e162, hx162_0⟩ := Kd.at_int HR1.out x5_1 p162 q162
                      obtain rfl : ad160 = ad162 := (by injection e162)
                      replace p162 := eq_true p162
                      replace q162 := eq_true q162
                      go_wp2
                      repeat (go_quiet (fail); try go_wp2)
                      go_ret
                      exact ⟨by first | rfl | (simp; done) | (simp [*]; done), by repeat (first | exact Drawn0.refl _ | apply Drawn0.step)⟩
                    · rw [if_neg c10] at H
                      have c10b0 : decide ((rd l1 x5_1) < (rd l0 x5_1)) = false := decide_eq_false c10
                      clear c10
                      have H' := Aside0.mk H
                      clear H
                      have p159 : 0 ≤ (x5_1 : Int) := of_decide_eq_true (by first | (with_reducible assumption) | assumption)
                      have q159 : x5_1 < (l0.length : Int) := of_decide_eq_true (by first | (with_reducible assumption) | assumption)
                      obtain ⟨ad159, e159, hx159_0⟩ := Kd.at_int HR0.out x5_1 p159 q159
                      cases e159
                      replace p159 := eq_true p159
                      replace q159 := eq_true q159
                      have p160 : 0 ≤ (x5_1 : Int) := of_decide_eq_true (by first | (with_reducible assumption) | assumption)
                      have q160 : x5_1 < (l1.length : Int) := of_decide_eq_true (by first | (with_reducible assumption) | assumption)
                      obtain ⟨ad160, e160, hx160_0⟩ := Kd.at_int HR1.out x5_1 p160 q160
                      cases e160
                      replace p160 := eq_true p160
                      replace q160 := eq_true q160
                      have p161 : 0 ≤ (x5_1 : Int) := of_decide_eq_true (by first | (with_reducible assumption) | assumption)
                      have q161 : x5_1 < (l0.length : Int) := of_decide_eq_true (by first | (with_reducible assumption) | assumption)
                      obtain ⟨ad161, e161, hx161_0⟩ := Kd.at_int HR0.out x5_1 p161 q161
                      obtain rfl : ad159 = ad161 := (by injection e161)
                      replace p161 := eq_true p161
                      replace q161 := eq_true q161
                      have p162 : 0 ≤ (x5_1 : Int) := of_decide_eq_true (by first | (with_reducible assumption) | assumption)
                      have q162 : x5_1 < (l1.length : Int) := of_decide_eq_true (by first | (with_reducible assumption) | assumption)
                      obtain ⟨ad162, e162, hx162_0⟩ := Kd.at_int HR1.out x5_1 p162 q162
                      obtain rfl : ad160 = ad162 := (by injection e162)
                      replace p162 := eq_true p162
                      replace q162 := eq_true q162
                      go_wp2
                      repeat (go_quiet (fail); try go_wp2)
                      go_roundg k1
                      case measure => have := HK1.out; omega
                      case rel => exact ⟨(wrap64 (x5_1 - 1)), (by first | rfl | (simp; done) | (simp [*]; done)), H', ⟨by have := HK1.out; omega⟩, by repeat (first | exact Drawn0.refl _ | apply Drawn0.step)⟩
                · rw [if_neg c8] at H
                  exact absurd H (by simp)
              · rw [if_neg c7] at H
                exact absurd H (by simp)
            · rw [if_neg c6] at H
              exact absurd H (by simp)
          · rw [if_neg c5] at H
            have c5b0 : decide (0 ≤ x5_1) = false := decide_eq_false c5
            clear c5
            obtain rfl := Option.some.inj H
            go_wp2
            repeat (go_quiet (fail); try go_wp2)
            go_ret
            exact ⟨by first | rfl | (simp; done) | (simp [*]; done), by repeat (first | exact Drawn0.refl _ | apply Drawn0.step)⟩

/-! ### spec_same: function 16 -/
def spec_same.f (k : Nat) (a0_0 : Bool) (l0_1 : List Int) (l0_2 : List Int) (a1_0 : Bool) (l1_1 : List Int) (l1_2 : List Int) : Option (Bool) := if (a0_0 == a1_0) = true then ((spec_Cmp.f k l0_1 l1_1).bind fun t165 => (if t165 = 0 then ((spec_Cmp.f k l0_2 l1_2).bind fun t166 => (some (t166 == 0))) else (some false))) else (some false)
theorem spec_same.mono : ∀ a0 a1 a2 a3 a4 a5 k, LeO (spec_same.f k a0 a1 a2 a3 a4 a5) (spec_same.f (k + 1) a0 a1 a2 a3 a4 a5) := by
  intro a0 a1 a2 a3 a4 a5 k
  unfold spec_same.f
  repeat' first
      | (with_reducible exact spec_Cmp.mono _ _ _)
      | (with_reducible exact LeO.refl _)
      | (with_reducible exact LeO.none _)
      | (with_reducible refine LeO.ite ?_ ?_)
      | (with_reducible refine LeO.bind ?_ (fun _ => ?_))
      | exact spec_Cmp.mono _ _ _
      | exact LeO.none _
      | refine LeO.ite ?_ ?_
      | refine LeO.bind ?_ (fun _ => ?_)
set_option maxHeartbeats 8000000 in
set_option maxRecDepth 100000 in
theorem spec_same.calls (k : Nat) (a0_0 : Bool) (A0_1 : Option Addr) (c0_1 : Nat) (l0_1 : List Int) (A0_2 : Option Addr) (c0_2 : Nat) (l0_2 : List Int) (a1_0 : Bool) (A1_1 : Option Addr) (c1_1 : Nat) (l1_1 : List Int) (A1_2 : Option Addr) (c1_2 : Nat) (l1_2 : List Int) (r : Bool) (w : World) (hr0_1 : Kd.C (Kd.int .i64) w A0_1 l0_1.length l0_1) (hc0_1 : l0_1.length ≤ c0_1) (hr0_2 : Kd.C (Kd.int .i64) w A0_2 l0_2.length l0_2) (hc0_2 : l0_2.length ≤ c0_2) (hr1_1 : Kd.C (Kd.int .i64) w A1_1 l1_1.length l1_1) (hc1_1 : l1_1.length ≤ c1_1) (hr1_2 : Kd.C (Kd.int .i64) w A1_2 l1_2.length l1_2) (hc1_2 : l1_2.length ≤ c1_2) (h : spec_same.f k a0_0 l0_1 l0_2 a1_0 l1_1 l1_2 = some r) :
    Calls Tryz.prog 16 #[.agg #[.bool a0_0, .slice A0_1 l0_1.length c0_1, .slice A0_2 l0_2.length c0_2], .agg #[.bool a1_0, .slice A1_1 l1_1.length c1_1, .slice A1_2 l1_2.length c1_2]] w fun e w' => e = .returned (.bool r) ∧ Below w.heap.size w w' := by
  have hu36 := Tryz.underlying36
  have HR0_1 := Aside0.mk hr0_1
  have HC0_1 := Aside0.mk hc0_1
  clear hr0_1 hc0_1
  have HR0_2 := Aside0.mk hr0_2
  have HC0_2 := Aside0.mk hc0_2
  clear hr0_2 hc0_2
  have HR1_1 := Aside0.mk hr1_1
  have HC1_1 := Aside0.mk hc1_1
  clear hr1_1 hc1_1
  have HR1_2 := Aside0.mk hr1_2
  have HC1_2 := Aside0.mk hc1_2
  clear hr1_2 hc1_2
  have HB := Aside0.mk (Below.refl w.heap.size w)
  have H : (if (a0_0 == a1_0) = true then ((spec_Cmp.f k l0_1 l1_1).bind fun t165 => (if t165 = 0 then ((spec_Cmp.f k l0_2 l1_2).bind fun t166 => (some (t166 == 0))) else (some false))) else (some false)) = some r := h
  clear h
  by_cases c3 : (a0_0 == a1_0) = true
  · rw [if_pos c3] at H
    have c3b0 : (a0_0 == a1_0) = true := c3
    (try (have c3b1 : decide (a0_0 = a1_0) = true := by simpa using c3))
    (try (have c3b2 : (a0_0 == a1_0) = true := by simpa using c3))
    clear c3
    replace H := Option.bind_eq_some_iff.mp H
    obtain ⟨t165, A40, H⟩ := H
    replace H : (if t165 = 0 then ((spec_Cmp.f k l0_2 l1_2).bind fun t166 => (some (t166 == 0))) else (some false)) = some r := H
    have A4 := Aside0.mk A40
    clear A40
    by_cases c5 : t165 = 0
    · rw [if_pos c5] at H
      have c5b0 : (t165 == 0) = true := beq_iff_eq.mpr c5
      have c5b1 : (t165 != 0) = false := bne_eq_false_iff_eq.mpr c5
      clear c5
      replace H := Option.bind_eq_some_iff.mp H
      obtain ⟨t166, A60, H⟩ := H
      replace H : (some (t166 == 0)) = some r := H
      have A6 := Aside0.mk A60
      clear A60
      obtain rfl := Option.some.inj H
      go_enter Tryz.func16, Tryz.ntmps16
      go_wp2_with (first | ((with_reducible refine gate_dst (N := 2) rfl ?_); refine box_event ?hg (N := 2) ?hd (cs := #[.bool a0_0, .slice A0_1 l0_1.length c0_1, .slice A0_2 l0_2.length c0_2]) (t := 36) ?hr ?_; (case hd => rfl); (case hg => rfl); (case hr => first | (go_simp; done) | (go_simp; rfl)); intro gb163 hg w7 hbox hb; have n0_ := Aside0.mk (below_step (by repeat (first | (with_reducible first | exact HB.out | apply below_alloc | apply pw_below_drewN | apply below_drew1) | exact HB.out)) hb); have n1_ := Aside0.mk (hbox); have n2_ := Aside0.mk ((by rw [hg]; exact (below_size (by repeat (first | (with_reducible first | exact HB.out | apply below_alloc | apply pw_below_drewN | apply below_drew1) | exact HB.out))) : w.heap.size ≤ gb163)); have n3_ := Aside0.mk ((by rw [hg]; exact (below_size (by repeat (first | (with_reducible first | exact HB.out | apply below_alloc | apply pw_below_drewN | apply below_drew1) | exact HB.out))) : w.heap.size ≤ gb163)); clear HB; have HB := n0_; have BK163 := n1_; have GW163 := n2_; have GE163 := n3_; clear n0_ n1_ n2_ n3_; clear hb hbox hg) | ((with_reducible refine gate_dst (N := 3) rfl ?_); refine box_event ?hg (N := 3) ?hd (cs := #[.bool a1_0, .slice A1_1 l1_1.length c1_1, .slice A1_2 l1_2.length c1_2]) (t := 36) ?hr ?_; (case hd => rfl); (case hg => rfl); (case hr => first | (go_simp; done) | (go_simp; rfl)); intro gb164 hg w8 hbox hb; have n0_ := Aside0.mk (blk_below (g := gb163) (o := .cells #[.bool a0_0, .slice A0_1 l0_1.length c0_1, .slice A0_2 l0_2.length c0_2] 36 (0, 0)) (by (with_reducible repeat (first | refine blk_drewN ?_ _ | refine blk_drew ?_ | refine blk_alloc ?_ _)); exact BK163.out) hb); have n1_ := Aside0.mk (below_step (by repeat (first | (with_reducible first | exact HB.out | apply below_alloc | apply pw_below_drewN | apply below_drew1 | refine below_set ?_ GE163.out) | exact HB.out)) hb); have n2_ := Aside0.mk (hbox); have n3_ := Aside0.mk ((by rw [hg]; exact (below_size (by repeat (first | (with_reducible first | exact HB.out | apply below_alloc | apply pw_below_drewN | apply below_drew1 | refine below_set ?_ GE163.out) | exact HB.out))) : w.heap.size ≤ gb164)); have n4_ := Aside0.mk ((by rw [hg]; exact (below_size (by repeat (first | (with_reducible first | exact HB.out | apply below_alloc | apply pw_below_drewN | apply below_drew1 | refine below_set ?_ GE163.out) | exact HB.out))) : w.heap.size ≤ gb164)); have n5_ := Aside0.mk ((by rw [hg]; exact Nat.ne_of_lt (blk_lt (g := gb163) (o := .cells #[.bool a0_0, .slice A0_1 l0_1.length c0_1, .slice A0_2 l0_2.length c0_2] 36 (0, 0)) (by (with_reducible repeat (first | refine blk_drewN ?_ _ | refine blk_drew ?_ | refine blk_alloc ?_ _)); exact BK163.out)) : gb163 ≠ gb164)); have n6_ := Aside0.mk ((by rw [hg]; exact Nat.ne_of_gt (blk_lt (g := gb163) (o := .cells #[.bool a0_0, .slice A0_1 l0_1.length c0_1, .slice A0_2 l0_2.length c0_2] 36 (0, 0)) (by (with_reducible repeat (first | refine blk_drewN ?_ _ | refine blk_drew ?_ | refine blk_alloc ?_ _)); exact BK163.out)) : gb164 ≠ gb163)); clear BK163; clear HB; have BK163 := n0_; have HB := n1_; have BK164 := n2_; have GW164 := n3_; have GE164 := n4_; have NB163_164 := n5_; have NB164_163 := n6_; clear n0_ n1_ n2_ n3_ n4_ n5_ n6_; clear hb hbox hg; have hnb9 := NB163_164.out; have hnc9 := NB164_163.out; have hcz10_0 : w8.cell? ⟨gb163, 0, none⟩ = some (.bool a0_0) := (blk_cell BK163.out 0).trans rfl; have hcz10_1 : w8.cell? ⟨gb163, 1, none⟩ = some (.slice A0_1 l0_1.length c0_1) := (blk_cell BK163.out 1).trans rfl; have hcz10_2 : w8.cell? ⟨gb163, 2, none⟩ = some (.slice A0_2 l0_2.length c0_2) := (blk_cell BK163.out 2).trans rfl; have hfz10_0 := blk_frozen BK163.out 0; have hfz10_1 := blk_frozen BK163.out 1; have hfz10_2 := blk_frozen BK163.out 2; have hcz11_0 : w8.cell? ⟨gb164, 0, none⟩ = some (.bool a1_0) := (blk_cell BK164.out 0).trans rfl; have hcz11_1 : w8.cell? ⟨gb164, 1, none⟩ = some (.slice A1_1 l1_1.length c1_1) := (blk_cell BK164.out 1).trans rfl; have hcz11_2 : w8.cell? ⟨gb164, 2, none⟩ = some (.slice A1_2 l1_2.length c1_2) := (blk_cell BK164.out 2).trans rfl; have hfz11_0 := blk_frozen BK164.out 0; have hfz11_1 := blk_frozen BK164.out 1; have hfz11_2 := blk_frozen BK164.out 2) | (go_at_call 38; (with_reducible refine (spec_Cmp.calls k _ _ l0_1 _ _ l1_1 t165 _ ?side1 ?side2 ?side3 ?side4 A4.out).mono ?_); (case side1 => repeat (first | exact (Kd.C_below HR0_1.out HB.out) | (with_reducible refine Kd.C_alloc ?_ _) | (with_reducible refine Kd.C_drewN ?_ _) | (with_reducible refine Kd.C_drew ?_))); (case side2 => exact HC0_1.out); (case side3 => repeat (first | exact (Kd.C_below HR1_1.out HB.out) | (with_reducible refine Kd.C_alloc ?_ _) | (with_reducible refine Kd.C_drewN ?_ _) | (with_reducible refine Kd.C_drew ?_))); (case side4 => exact HC1_1.out); rintro e w' ⟨rfl, ⟨nd, rfl⟩⟩) | (go_at_call 38; (with_reducible refine (spec_Cmp.calls k _ _ l0_2 _ _ l1_2 t166 _ ?side1 ?side2 ?side3 ?side4 A6.out).mono ?_); (case side1 => repeat (first | exact (Kd.C_below HR0_2.out (by repeat (first | (with_reducible first | exact HB.out | apply below_alloc | apply pw_below_drewN | apply below_drew1 | refine below_set ?_ GE163.out | refine below_set ?_ GE164.out) | exact HB.out))) | (with_reducible refine Kd.C_alloc ?_ _) | (with_reducible refine Kd.C_drewN ?_ _) | (with_reducible refine Kd.C_drew ?_))); (case side2 => exact HC0_2.out); (case side3 => repeat (first | exact (Kd.C_below HR1_2.out (by repeat (first | (with_reducible first | exact HB.out | apply below_alloc | apply pw_below_drewN | apply below_drew1 | refine below_set ?_ GE163.out | refine below_set ?_ GE164.out) | exact HB.out))) | (with_reducible refine Kd.C_alloc ?_ _) | (with_reducible refine Kd.C_drewN ?_ _) | (with_reducible refine Kd.C_drew ?_))); (case side4 => exact HC1_2.out); rintro e w' ⟨rfl, ⟨nd, rfl⟩⟩))
      go_ret
      exact ⟨by first | rfl | (simp [errW_none, errW_some] <;> rfl) | (simp [*, errW_none, errW_some] <;> rfl), by repeat (first | (with_reducible first | exact HB.out | apply below_alloc | apply pw_below_drewN | apply below_drew1 | refine below_set ?_ GE163.out | refine below_set ?_ GE164.out) | exact HB.out)⟩
    · rw [if_neg c5] at H
      have c5b0 : (t165 == 0) = false := beq_eq_false_iff_ne.mpr c5
      have c5b1 : (t165 != 0) = true := bne_iff_ne.mpr c5
      obtain rfl := Option.some.inj H
      go_enter Tryz.func16, Tryz.ntmps16
      go_wp2_with (first | ((with_reducible refine gate_dst (N := 2) rfl ?_); refine box_event ?hg (N := 2) ?hd (cs := #[.bool a0_0, .slice A0_1 l0_1.length c0_1, .slice A0_2 l0_2.length c0_2]) (t := 36) ?hr ?_; (case hd => rfl); (case hg => rfl); (case hr => first | (go_simp; done) | (go_simp; rfl)); intro gb163 hg w12 hbox hb; have n0_ := Aside0.mk (below_step (by repeat (first | (with_reducible first | exact HB.out | apply below_alloc | apply pw_below_drewN | apply below_drew1) | exact HB.out)) hb); have n1_ := Aside0.mk (hbox); have n2_ := Aside0.mk ((by rw [hg]; exact (below_size (by repeat (first | (with_reducible first | exact HB.out | apply below_alloc | apply pw_below_drewN | apply below_drew1) | exact HB.out))) : w.heap.size ≤ gb163)); have n3_ := Aside0.mk ((by rw [hg]; exact (below_size (by repeat (first | (with_reducible first | exact HB.out | apply below_alloc | apply pw_below_drewN | apply below_drew1) | exact HB.out))) : w.heap.size ≤ gb163)); clear HB; have HB := n0_; have BK163 := n1_; have GW163 := n2_; have GE163 := n3_; clear n0_ n1_ n2_ n3_; clear hb hbox hg) | ((with_reducible refine gate_dst (N := 3) rfl ?_); refine box_event ?hg (N := 3) ?hd (cs := #[.bool a1_0, .slice A1_1 l1_1.length c1_1, .slice A1_2 l1_2.length c1_2]) (t := 36) ?hr ?_; (case hd => rfl); (case hg => rfl); (case hr => first | (go_simp; done) | (go_simp; rfl)); intro gb164 hg w13 hbox hb; have n0_ := Aside0.mk (blk_below (g := gb163) (o := .cells #[.bool a0_0, .slice A0_1 l0_1.length c0_1, .slice A0_2 l0_2.length c0_2] 36 (0, 0)) (by (with_reducible repeat (first | refine blk_drewN ?_ _ | refine blk_drew ?_ | refine blk_alloc ?_ _)); exact BK163.out) hb); have n1_ := Aside0.mk (below_step (by repeat (first | (with_reducible first | exact HB.out | apply below_alloc | apply pw_below_drewN | apply below_drew1 | refine below_set ?_ GE163.out) | exact HB.out)) hb); have n2_ := Aside0.mk (hbox); have n3_ := Aside0.mk ((by rw [hg]; exact (below_size (by repeat (first | (with_reducible first | exact HB.out | apply below_alloc | apply pw_below_drewN | apply below_drew1 | refine below_set ?_ GE163.out) | exact HB.out))) : w.heap.size ≤ gb164)); have n4_ := Aside0.mk ((by rw [hg]; exact (below_size (by repeat (first | (with_reducible first | exact HB.out | apply below_alloc | apply pw_below_drewN | apply below_drew1 | refine below_set ?_ GE163.out) | exact HB.out))) : w.heap.size ≤ gb164)); have n5_ := Aside0.mk ((by rw [hg]; exact Nat.ne_of_lt (blk_lt (g := gb163) (o := .cells #[.bool a0_0, .slice A0_1 l0_1.length c0_1, .slice A0_2 l0_2.length c0_2] 36 (0, 0)) (by (with_reducible repeat (first | refine blk_drewN ?_ _ | refine blk_drew ?_ | refine blk_alloc ?_ _)); exact BK163.out)) : gb163 ≠ gb164)); have n6_ := Aside0.mk ((by rw [hg]; exact Nat.ne_of_gt (blk_lt (g := gb163) (o := .cells #[.bool a0_0, .slice A0_1 l0_1.length c0_1, .slice A0_2 l0_2.length c0_2] 36 (0, 0)) (by (with_reducible repeat (first | refine blk_drewN ?_ _ | refine blk_drew ?_ | refine blk_alloc ?_ _)); exact BK163.out)) : gb164 ≠ gb163)); clear BK163; clear HB; have BK163 := n0_; have HB := n1_; have BK164 := n2_; have GW164 := n3_; have GE164 := n4_; have NB163_164 := n5_; have NB164_163 := n6_; clear n0_ n1_ n2_ n3_ n4_ n5_ n6_; clear hb hbox hg; have hnb14 := NB163_164.out; have hnc14 := NB164_163.out; have hcz15_0 : w13.cell? ⟨gb163, 0, none⟩ = some (.bool a0_0) := (blk_cell BK163.out 0).trans rfl; have hcz15_1 : w13.cell? ⟨gb163, 1, none⟩ = some (.slice A0_1 l0_1.length c0_1) := (blk_cell BK163.out 1).trans rfl; have hcz15_2 : w13.cell? ⟨gb163, 2, none⟩ = some (.slice A0_2 l0_2.length c0_2) := (blk_cell BK163.out 2).trans rfl; have hfz15_0 := blk_frozen BK163.out 0; have hfz15_1 := blk_frozen BK163.out 1; have hfz15_2 := blk_frozen BK163.out 2; have hcz16_0 : w13.cell? ⟨gb164, 0, none⟩ = some (.bool a1_0) := (blk_cell BK164.out 0).trans rfl; have hcz16_1 : w13.cell? ⟨gb164, 1, none⟩ = some (.slice A1_1 l1_1.length c1_1) := (blk_cell BK164.out 1).trans rfl; have hcz16_2 : w13.cell? ⟨gb164, 2, none⟩ = some (.slice A1_2 l1_2.length c1_2) := (blk_cell BK164.out 2).trans rfl; have hfz16_0 := blk_frozen BK164.out 0; have hfz16_1 := blk_frozen BK164.out 1; have hfz16_2 := blk_frozen BK164.out 2) | (go_at_call 38; (with_reducible refine (spec_Cmp.calls k _ _ l0_1 _ _ l1_1 t165 _ ?side1 ?side2 ?side3 ?side4 A4.out).mono ?_); (case side1 => repeat (first | exact (Kd.C_below HR0_1.out HB.out) | (with_reducible refine Kd.C_alloc ?_ _) | (with_reducible refine Kd.C_drewN ?_ _) | (with_reducible refine Kd.C_drew ?_))); (case side2 => exact HC0_1.out); (case side3 => repeat (first | exact (Kd.C_below HR1_1.out HB.out) | (with_reducible refine Kd.C_alloc ?_ _) | (with_reducible refine Kd.C_drewN ?_ _) | (with_reducible refine Kd.C_drew ?_))); (case side4 => exact HC1_1.out); rintro e w' ⟨rfl, ⟨nd, rfl⟩⟩))
      go_ret
      exact ⟨by first | rfl | (simp [errW_none, errW_some] <;> rfl) | (simp [*, errW_none, errW_some] <;> rfl), by repeat (first | (with_reducible first | exact HB.out | apply below_alloc | apply pw_below_drewN | apply below_drew1 | refine below_set ?_ GE163.out | refine below_set ?_ GE164.out) | exact HB.out)⟩
  · rw [if_neg c3] at H
    have c3b0 : (a0_0 == a1_0) = false := by simpa using c3
    (try (have c3b1 : decide (a0_0 = a1_0) = false := by simpa using c3))
    (try (have c3b2 : (a0_0 == a1_0) = false := by simpa using c3))
    (try (have c3b3 : ¬ (a0_0 = a1_0) := by simpa using c3))
    clear c3
    obtain rfl := Option.some.inj H
    go_enter Tryz.func16, Tryz.ntmps16
    go_wp2_with (first | ((with_reducible refine gate_dst (N := 2) rfl ?_); refine box_event ?hg (N := 2) ?hd (cs := #[.bool a0_0, .slice A0_1 l0_1.length c0_1, .slice A0_2 l0_2.length c0_2]) (t := 36) ?hr ?_; (case hd => rfl); (case hg => rfl); (case hr => first | (go_simp; done) | (go_simp; rfl)); intro gb163 hg w17 hbox hb; have n0_ := Aside0.mk (below_step (by repeat (first | (with_reducible first | exact HB.out | apply below_alloc | apply pw_below_drewN | apply below_drew1) | exact HB.out)) hb); have n1_ := Aside0.mk (hbox); have n2_ := Aside0.mk ((by rw [hg]; exact (below_size (by repeat (first | (with_reducible first | exact HB.out | apply below_alloc | apply pw_below_drewN | apply below_drew1) | exact HB.out))) : w.heap.size ≤ gb163)); have n3_ := Aside0.mk ((by rw [hg]; exact (below_size (by repeat (first | (with_reducible first | exact HB.out | apply below_alloc | apply pw_below_drewN | apply below_drew1) | exact HB.out))) : w.heap.size ≤ gb163)); clear HB; have HB := n0_; have BK163 := n1_; have GW163 := n2_; have GE163 := n3_; clear n0_ n1_ n2_ n3_; clear hb hbox hg) | ((with_reducible refine gate_dst (N := 3) rfl ?_); refine box_event ?hg (N := 3) ?hd (cs := #[.bool a1_0, .slice A1_1 l1_1.length c1_1, .slice A1_2 l1_2.length c1_2]) (t := 36) ?hr ?_; (case hd => rfl); (case hg => rfl); (case hr => first | (go_simp; done) | (go_simp; rfl)); intro gb164 hg w18 hbox hb; have n0_ := Aside0.mk (blk_below (g := gb163) (o := .cells #[.bool a0_0, .slice A0_1 l0_1.length c0_1, .slice A0_2 l0_2.length c0_2] 36 (0, 0)) (by (with_reducible repeat (first | refine blk_drewN ?_ _ | refine blk_drew ?_ | refine blk_alloc ?_ _)); exact BK163.out) hb); have n1_ := Aside0.mk (below_step (by repeat (first | (with_reducible first | exact HB.out | apply below_alloc | apply pw_below_drewN | apply below_drew1 | refine below_set ?_ GE163.out) | exact HB.out)) hb); have n2_ := Aside0.mk (hbox); have n3_ := Aside0.mk ((by rw [hg]; exact (below_size (by repeat (first | (with_reducible first | exact HB.out | apply below_alloc | apply pw_below_drewN | apply below_drew1 | refine below_set ?_ GE163.out) | exact HB.out))) : w.heap.size ≤ gb164)); have n4_ := Aside0.mk ((by rw [hg]; exact (below_size (by repeat (first | (with_reducible first | exact HB.out | apply below_alloc | apply pw_below_drewN | apply below_drew1 | refine below_set ?_ GE163.out) | exact HB.out))) : w.heap.size ≤ gb164)); have n5_ := Aside0.mk ((by rw [hg]; exact Nat.ne_of_lt (blk_lt (g := gb163) (o := .cells #[.bool a0_0, .slice A0_1 l0_1.length c0_1, .slice A0_2 l0_2.length c0_2] 36 (0, 0)) (by (with_reducible repeat (first | refine blk_drewN ?_ _ | refine blk_drew ?_ | refine blk_alloc ?_ _)); exact BK163.out)) : gb163 ≠ gb164)); have n6_ := Aside0.mk ((by rw [hg]; exact Nat.ne_of_gt (blk_lt (g := gb163) (o := .cells #[.bool a0_0, .slice A0_1 l0_1.length c0_1, .slice A0_2 l0_2.length c0_2] 36 (0, 0)) (by (with_reducible repeat (first | refine blk_drewN ?_ _ | refine blk_drew ?_ | refine blk_alloc ?_ _)); exact BK163.out)) : gb164 ≠ gb163)); clear BK163; clear HB; have BK163 := n0_; have HB := n1_; have BK164 := n2_; have GW164 := n3_; have GE164 := n4_; have NB163_164 := n5_; have NB164_163 := n6_; clear n0_ n1_ n2_ n3_ n4_ n5_ n6_; clear hb hbox hg; have hnb19 := NB163_164.out; have hnc19 := NB164_163.out; have hcz20_0 : w18.cell? ⟨gb163, 0, none⟩ = some (.bool a0_0) := (blk_cell BK163.out 0).trans rfl; have hcz20_1 : w18.cell? ⟨gb163, 1, none⟩ = some (.slice A0_1 l0_1.length c0_1) := (blk_cell BK163.out 1).trans rfl; have hcz20_2 : w18.cell? ⟨gb163, 2, none⟩ = some (.slice A0_2 l0_2.length c0_2) := (blk_cell BK163.out 2).trans rfl; have hfz20_0 := blk_frozen BK163.out 0; have hfz20_1 := blk_frozen BK163.out 1; have hfz20_2 := blk_frozen BK163.out 2; have hcz21_0 : w18.cell? ⟨gb164, 0, none⟩ = some (.bool a1_0) := (blk_cell BK164.out 0).trans rfl; have hcz21_1 : w18.cell? ⟨gb164, 1, none⟩ = some (.slice A1_1 l1_1.length c1_1) := (blk_cell BK164.out 1).trans rfl; have hcz21_2 : w18.cell? ⟨gb164, 2, none⟩ = some (.slice A1_2 l1_2.length c1_2) := (blk_cell BK164.out 2).trans rfl; have hfz21_0 := blk_frozen BK164.out 0; have hfz21_1 := blk_frozen BK164.out 1; have hfz21_2 := blk_frozen BK164.out 2))
    go_ret
    exact ⟨by first | rfl | (simp [errW_none, errW_some] <;> rfl) | (simp [*, errW_none, errW_some] <;> rfl), by repeat (first | (with_reducible first | exact HB.out | apply below_alloc | apply pw_below_drewN | apply below_drew1 | refine below_set ?_ GE163.out | refine below_set ?_ GE164.out) | exact HB.out)⟩

/-! ### strconv_unhex: function 60 -/
/-! ### utf8_ValidRune: function 61 -/
/-! ### laws_signed: function 4 -/
def laws_signed.f (a0 : ByteArray) : Option (Bool) := if (a0.size : Int) > 0 then (if 0 < (a0.size : Int) then (if (bt a0 0) = 43 then (some true) else (if (bt a0 0) = 45 then (some true) else (if a0.toList = ([73, 110, 102] : List UInt8) then (some true) else (if a0.toList = ([105, 110, 102] : List UInt8) then (some true) else (if a0.toList = ([73, 110, 102, 105] : List UInt8) then (some true) else (some (a0.toList == ([105, 110, 102, 105] : List UInt8)))))))) else (none)) else (if a0.toList = ([73, 110, 102] : List UInt8) then (some true) else (if a0.toList = ([105, 110, 102] : List UInt8) then (some true) else (if a0.toList = ([73, 110, 102, 105] : List UInt8) then (some true) else (some (a0.toList == ([105, 110, 102, 105] : List UInt8))))))
set_option maxHeartbeats 8000000 in
set_option maxRecDepth 100000 in
theorem laws_signed.calls (a0 : ByteArray) (r : Bool) (w : World) (h : laws_signed.f a0 = some r) :
    Calls Tryz.prog 4 #[.string a0] w fun e w' => e = .returned (.bool r) ∧ Drawn0 w w' := by
  have H : (if (a0.size : Int) > 0 then (if 0 < (a0.size : Int) then (if (bt a0 0) = 43 then (some true) else (if (bt a0 0) = 45 then (some true) else (if a0.toList = ([73, 110, 102] : List UInt8) then (some true) else (if a0.toList = ([105, 110, 102] : List UInt8) then (some true) else (if a0.toList = ([73, 110, 102, 105] : List UInt8) then (some true) else (some (a0.toList == ([105, 110, 102, 105] : List UInt8)))))))) else (none)) else (if a0.toList = ([73, 110, 102] : List UInt8) then (some true) else (if a0.toList = ([105, 110, 102] : List UInt8) then (some true) else (if a0.toList = ([73, 110, 102, 105] : List UInt8) then (some true) else (some (a0.toList == ([105, 110, 102, 105] : List UInt8))))))) = some r := h
  clear h
  by_cases c2 : (a0.size : Int) > 0
  · rw [if_pos c2] at H
    have c2b0 : decide (0 < (a0.size : Int)) = true := decide_eq_true c2
    have c2b1 : decide (0 < a0.size) = true := decide_eq_true (by omega)
    clear c2
    by_cases c3 : 0 < (a0.size : Int)
    · rw [if_pos c3] at H
      have c3b0 : decide (0 < (a0.size : Int)) = true := decide_eq_true c3
      have c3b1 : decide (0 < a0.size) = true := decide_eq_true (by omega)
      clear c3
      by_cases c5 : (bt a0 0) = 43
      · rw [if_pos c5] at H
        have c5b0 : ((bt a0 0) == 43) = true := beq_iff_eq.mpr c5
        have c5b1 : ((bt a0 0) != 43) = false := bne_eq_false_iff_eq.mpr c5
        clear c5
        obtain rfl := Option.some.inj H
        have p4 : 0 ≤ (0 : Int) := (by omega)
        have q4 : 0 < a0.size := (by have : (0 : Int) < (a0.size : Int) := of_decide_eq_true (by first | (with_reducible assumption) | assumption); omega)
        have hx4 : ∀ h : 0 < a0.size, ((a0[0]'h).toNat : Int) = bt a0 0 := bt_at a0 0
        clear p4
        have qi4 : (0 < (a0.size : Int)) = True := eq_true (of_decide_eq_true (by first | (with_reducible assumption) | assumption))
        replace q4 := eq_true q4
        go_enter Tryz.func4, Tryz.ntmps4
        go_wp2
        go_ret
        exact ⟨by first | rfl | (simp; done) | (simp [*]; done), by repeat (first | exact Drawn0.refl _ | apply Drawn0.step)⟩
      · rw [if_neg c5] at H
        have c5b0 : ((bt a0 0) == 43) = false := beq_eq_false_iff_ne.mpr c5
        have c5b1 : ((bt a0 0) != 43) = true := bne_iff_ne.mpr c5
        by_cases c7 : (bt a0 0) = 45
        · rw [if_pos c7] at H
          have c7b0 : ((bt a0 0) == 45) = true := beq_iff_eq.mpr c7
          have c7b1 : ((bt a0 0) != 45) = false := bne_eq_false_iff_eq.mpr c7
          clear c7
          obtain rfl := Option.some.inj H
          have p4 : 0 ≤ (0 : Int) := (by omega)
          have q4 : 0 < a0.size := (by have : (0 : Int) < (a0.size : Int) := of_decide_eq_true (by first | (with_reducible assumption) | assumption); omega)
          have hx4 : ∀ h : 0 < a0.size, ((a0[0]'h).toNat : Int) = bt a0 0 := bt_at a0 0
          clear p4
          have qi4 : (0 < (a0.size : Int)) = True := eq_true (of_decide_eq_true (by first | (with_reducible assumption) | assumption))
          replace q4 := eq_true q4
          have p6 : 0 ≤ (0 : Int) := (by omega)
          have q6 : 0 < a0.size := (by have : (0 : Int) < (a0.size : Int) := of_decide_eq_true (by first | (with_reducible assumption) | assumption); omega)
          have hx6 : ∀ h : 0 < a0.size, ((a0[0]'h).toNat : Int) = bt a0 0 := bt_at a0 0
          clear p6
          have qi6 : (0 < (a0.size : Int)) = True := eq_true (of_decide_eq_true (by first | (with_reducible assumption) | assumption))
          replace q6 := eq_true q6
          go_enter Tryz.func4, Tryz.ntmps4
          go_wp2
          go_ret
          exact ⟨by first | rfl | (simp; done) | (simp [*]; done), by repeat (first | exact Drawn0.refl _ | apply Drawn0.step)⟩
        · rw [if_neg c7] at H
          have c7b0 : ((bt a0 0) == 45) = false := beq_eq_false_iff_ne.mpr c7
          have c7b1 : ((bt a0 0) != 45) = true := bne_iff_ne.mpr c7
          by_cases c8 : a0.toList = ([73, 110, 102] : List UInt8)
          · rw [if_pos c8] at H
            have c8b0 : (a0.toList == ([73, 110, 102] : List UInt8)) = true := beq_iff_eq.mpr c8
            have c8b1 : (a0.toList != ([73, 110, 102] : List UInt8)) = false := bne_eq_false_iff_eq.mpr c8
            clear c8
            obtain rfl := Option.some.inj H
            have p4 : 0 ≤ (0 : Int) := (by omega)
            have q4 : 0 < a0.size := (by have : (0 : Int) < (a0.size : Int) := of_decide_eq_true (by first | (with_reducible assumption) | assumption); omega)
            have hx4 : ∀ h : 0 < a0.size, ((a0[0]'h).toNat : Int) = bt a0 0 := bt_at a0 0
            clear p4
            have qi4 : (0 < (a0.size : Int)) = True := eq_true (of_decide_eq_true (by first | (with_reducible assumption) | assumption))
            replace q4 := eq_true q4
            have p6 : 0 ≤ (0 : Int) := (by omega)
            have q6 : 0 < a0.size := (by have : (0 : Int) < (a0.size : Int) := of_decide_eq_true (by first | (with_reducible assumption) | assumption); omega)
            have hx6 : ∀ h : 0 < a0.size, ((a0[0]'h).toNat : Int) = bt a0 0 := bt_at a0 0
            clear p6
            have qi6 : (0 < (a0.size : Int)) = True := eq_true (of_decide_eq_true (by first | (with_reducible assumption) | assumption))
            replace q6 := eq_true q6
            go_enter Tryz.func4, Tryz.ntmps4
            go_wp2
            go_ret
            exact ⟨by first | rfl | (simp; done) | (simp [*]; done), by repeat (first | exact Drawn0.refl _ | apply Drawn0.step)⟩
          · rw [if_neg c8] at H
            have c8b0 : (a0.toList == ([73, 110, 102] : List UInt8)) = false := beq_eq_false_iff_ne.mpr c8
            have c8b1 : (a0.toList != ([73, 110, 102] : List UInt8)) = true := bne_iff_ne.mpr c8
            by_cases c9 : a0.toList = ([105, 110, 102] : List UInt8)
            · rw [if_pos c9] at H
              have c9b0 : (a0.toList == ([105, 110, 102] : List UInt8)) = true := beq_iff_eq.mpr c9
              have c9b1 : (a0.toList != ([105, 110, 102] : List UInt8)) = false := bne_eq_false_iff_eq.mpr c9
              clear c9
              obtain rfl := Option.some.inj H
              have p4 : 0 ≤ (0 : Int) := (by omega)
              have q4 : 0 < a0.size := (by have : (0 : Int) < (a0.size : Int) := of_decide_eq_true (by first | (with_reducible assumption) | assumption); omega)
              have hx4 : ∀ h : 0 < a0.size, ((a0[0]'h).toNat : Int) = bt a0 0 := bt_at a0 0
              clear p4
              have qi4 : (0 < (a0.size : Int)) = True := eq_true (of_decide_eq_true (by first | (with_reducible assumption) | assumption))
              replace q4 := eq_true q4
              have p6 : 0 ≤ (0 : Int) := (by omega)
              have q6 : 0 < a0.size := (by have : (0 : Int) < (a0.size : Int) := of_decide_eq_true (by first | (with_reducible assumption) | assumption); omega)
              have hx6 : ∀ h : 0 < a0.size, ((a0[0]'h).toNat : Int) = bt a0 0 := bt_at a0 0
              clear p6
              have qi6 : (0 < (a0.size : Int)) = True := eq_true (of_decide_eq_true (by first | (with_reducible assumption) | assumption))
              replace q6 := eq_true q6
              go_enter Tryz.func4, Tryz.ntmps4
              go_wp2
              go_ret
              exact ⟨by first | rfl | (simp; done) | (simp [*]; done), by repeat (first | exact Drawn0.refl _ | apply Drawn0.step)⟩
            · rw [if_neg c9] at H
              have c9b0 : (a0.toList == ([105, 110, 102] : List UInt8)) = false := beq_eq_false_iff_ne.mpr c9
              have c9b1 : (a0.toList != ([105, 110, 102] : List UInt8)) = true := bne_iff_ne.mpr c9
              by_cases c10 : a0.toList = ([73, 110, 102, 105] : List UInt8)
              · rw [if_pos c10] at H
                have c10b0 : (a0.toList == ([73, 110, 102, 105] : List UInt8)) = true := beq_iff_eq.mpr c10
                have c10b1 : (a0.toList != ([73, 110, 102, 105] : List UInt8)) = false := bne_eq_false_iff_eq.mpr c10
                clear c10
                obtain rfl := Option.some.inj H
                have p4 : 0 ≤ (0 : Int) := (by omega)
                have q4 : 0 < a0.size := (by have : (0 : Int) < (a0.size : Int) := of_decide_eq_true (by first | (with_reducible assumption) | assumption); omega)
                have hx4 : ∀ h : 0 < a0.size, ((a0[0]'h).toNat : Int) = bt a0 0 := bt_at a0 0
                clear p4
                have qi4 : (0 < (a0.size : Int)) = True := eq_true (of_decide_eq_true (by first | (with_reducible assumption) | assumption))
                replace q4 := eq_true q4
                have p6 : 0 ≤ (0 : Int) := (by omega)
                have q6 : 0 < a0.size := (by have : (0 : Int) < (a0.size : Int) := of_decide_eq_true (by first | (with_reducible assumption) | assumption); omega)
                have hx6 : ∀ h : 0 < a0.size, ((a0[0]'h).toNat : Int) = bt a0 0 := bt_at a0 0
                clear p6
                have qi6 : (0 < (a0.size : Int)) = True := eq_true (of_decide_eq_true (by first | (with_reducible assumption) | assumption))
                replace q6 := eq_true q6
                go_enter Tryz.func4, Tryz.ntmps4
                go_wp2
                go_ret
                exact ⟨by first | rfl | (simp; done) | (simp [*]; done), by repeat (first | exact Drawn0.refl _ | apply Drawn0.step)⟩
              · rw [if_neg c10] at H
                have c10b0 : (a0.toList == ([73, 110, 102, 105] : List UInt8)) = false := beq_eq_false_iff_ne.mpr c10
                have c10b1 : (a0.toList != ([73, 110, 102, 105] : List UInt8)) = true := bne_iff_ne.mpr c10
                obtain rfl := Option.some.inj H
                have p4 : 0 ≤ (0 : Int) := (by omega)
                have q4 : 0 < a0.size := (by have : (0 : Int) < (a0.size : Int) := of_decide_eq_true (by first | (with_reducible assumption) | assumption); omega)
                have hx4 : ∀ h : 0 < a0.size, ((a0[0]'h).toNat : Int) = bt a0 0 := bt_at a0 0
                clear p4
                have qi4 : (0 < (a0.size : Int)) = True := eq_true (of_decide_eq_true (by first | (with_reducible assumption) | assumption))
                replace q4 := eq_true q4
                have p6 : 0 ≤ (0 : Int) := (by omega)
                have q6 : 0 < a0.size := (by have : (0 : Int) < (a0.size : Int) := of_decide_eq_true (by first | (with_reducible assumption) | assumption); omega)
                have hx6 : ∀ h : 0 < a0.size, ((a0[0]'h).toNat : Int) = bt a0 0 := bt_at a0 0
                clear p6
                have qi6 : (0 < (a0.size : Int)) = True := eq_true (of_decide_eq_true (by first | (with_reducible assumption) | assumption))
                replace q6 := eq_true q6
                go_enter Tryz.func4, Tryz.ntmps4
                go_wp2
                go_ret
                exact ⟨by first | rfl | (simp; done) | (simp [*]; done), by repeat (first | exact Drawn0.refl _ | apply Drawn0.step)⟩
    · rw [if_neg c3] at H
      exact absurd H (by simp)
  · rw [if_neg c2] at H
    have c2b0 : decide (0 < (a0.size : Int)) = false := decide_eq_false c2
    have c2b1 : decide (0 < a0.size) = false := decide_eq_false (by omega)
    clear c2
    by_cases c11 : a0.toList = ([73, 110, 102] : List UInt8)
    · rw [if_pos c11] at H
      have c11b0 : (a0.toList == ([73, 110, 102] : List UInt8)) = true := beq_iff_eq.mpr c11
      have c11b1 : (a0.toList != ([73, 110, 102] : List UInt8)) = false := bne_eq_false_iff_eq.mpr c11
      clear c11
      obtain rfl := Option.some.inj H
      go_enter Tryz.func4, Tryz.ntmps4
      go_wp2
      go_ret
      exact ⟨by first | rfl | (simp; done) | (simp [*]; done), by repeat (first | exact Drawn0.refl _ | apply Drawn0.step)⟩
    · rw [if_neg c11] at H
      have c11b0 : (a0.toList == ([73, 110, 102] : List UInt8)) = false := beq_eq_false_iff_ne.mpr c11
      have c11b1 : (a0.toList != ([73, 110, 102] : List UInt8)) = true := bne_iff_ne.mpr c11
      by_cases c12 : a0.toList = ([105, 110, 102] : List UInt8)
      · rw [if_pos c12] at H
        have c12b0 : (a0.toList == ([105, 110, 102] : List UInt8)) = true := beq_iff_eq.mpr c12
        have c12b1 : (a0.toList != ([105, 110, 102] : List UInt8)) = false := bne_eq_false_iff_eq.mpr c12
        clear c12
        obtain rfl := Option.some.inj H
        go_enter Tryz.func4, Tryz.ntmps4
        go_wp2
        go_ret
        exact ⟨by first | rfl | (simp; done) | (simp [*]; done), by repeat (first | exact Drawn0.refl _ | apply Drawn0.step)⟩
      · rw [if_neg c12] at H
        have c12b0 : (a0.toList == ([105, 110, 102] : List UInt8)) = false := beq_eq_false_iff_ne.mpr c12
        have c12b1 : (a0.toList != ([105, 110, 102] : List UInt8)) = true := bne_iff_ne.mpr c12
        by_cases c13 : a0.toList = ([73, 110, 102, 105] : List UInt8)
        · rw [if_pos c13] at H
          have c13b0 : (a0.toList == ([73, 110, 102, 105] : List UInt8)) = true := beq_iff_eq.mpr c13
          have c13b1 : (a0.toList != ([73, 110, 102, 105] : List UInt8)) = false := bne_eq_false_iff_eq.mpr c13
          clear c13
          obtain rfl := Option.some.inj H
          go_enter Tryz.func4, Tryz.ntmps4
          go_wp2
          go_ret
          exact ⟨by first | rfl | (simp; done) | (simp [*]; done), by repeat (first | exact Drawn0.refl _ | apply Drawn0.step)⟩
        · rw [if_neg c13] at H
          have c13b0 : (a0.toList == ([73, 110, 102, 105] : List UInt8)) = false := beq_eq_false_iff_ne.mpr c13
          have c13b1 : (a0.toList != ([73, 110, 102, 105] : List UInt8)) = true := bne_iff_ne.mpr c13
          obtain rfl := Option.some.inj H
          go_enter Tryz.func4, Tryz.ntmps4
          go_wp2
          go_ret
          exact ⟨by first | rfl | (simp; done) | (simp [*]; done), by repeat (first | exact Drawn0.refl _ | apply Drawn0.step)⟩

/-! ### spec_prefix: function 10 -/
def spec_prefix.j0 : Nat → ByteArray → Bool → Option (Int × Int)
  | 0, _, _ => none
  | k + 1, x0, x11 => if x11 = true then (if 1 < (x0.size : Int) then (if (Go.bits .or .u8 (bt x0 1) 32) = 120 then (some (16, 2)) else (if (Go.bits .or .u8 (bt x0 1) 32) = 111 then (some (8, 2)) else (if (Go.bits .or .u8 (bt x0 1) 32) = 98 then (some (2, 2)) else (some (10, 0))))) else (none)) else (some (10, 0))
def spec_prefix.f (k : Nat) (a0 : ByteArray) : Option (Int × Int) := if (a0.size : Int) > 1 then (if 0 < (a0.size : Int) then (spec_prefix.j0 k a0 ((bt a0 0) == 48)) else (none)) else (spec_prefix.j0 k a0 false)
theorem spec_prefix.mono_l : ∀ k, (∀ y0 y1, LeO (spec_prefix.j0 k y0 y1) (spec_prefix.j0 (k + 1) y0 y1))
  | 0 => fun _ _ r h => by simp [spec_prefix.j0] at h
  | k + 1 => by
    have ih0 := spec_prefix.mono_l k
    · intro y0 y1
      unfold spec_prefix.j0
      repeat' first
      | (with_reducible exact ih0 _ _)
      | (with_reducible exact LeO.refl _)
      | (with_reducible exact LeO.none _)
      | (with_reducible refine LeO.ite ?_ ?_)
      | (with_reducible refine LeO.bind ?_ (fun _ => ?_))
      | exact ih0 _ _
      | exact LeO.none _
      | refine LeO.ite ?_ ?_
      | refine LeO.bind ?_ (fun _ => ?_)
theorem spec_prefix.mono : ∀ a0 k, LeO (spec_prefix.f k a0) (spec_prefix.f (k + 1) a0) := by
  intro a0 k
  have ih0 := spec_prefix.mono_l k
  unfold spec_prefix.f
  repeat' first
      | (with_reducible exact ih0 _ _)
      | (with_reducible exact LeO.refl _)
      | (with_reducible exact LeO.none _)
      | (with_reducible refine LeO.ite ?_ ?_)
      | (with_reducible refine LeO.bind ?_ (fun _ => ?_))
      | exact ih0 _ _
      | exact LeO.none _
      | refine LeO.ite ?_ ?_
      | refine LeO.bind ?_ (fun _ => ?_)
set_option maxHeartbeats 8000000 in
set_option maxRecDepth 100000 in
theorem spec_prefix.calls (k : Nat) (a0 : ByteArray) (r1 : Int) (r2 : Int) (w : World) (h : spec_prefix.f k a0 = some (r1, r2)) :
    Calls Tryz.prog 10 #[.string a0] w fun e w' => e = .returned (.tuple #[.int .i64 r1, .int .i64 r2]) ∧ Drawn0 w w' := by
  have H : (if (a0.size : Int) > 1 then (if 0 < (a0.size : Int) then (spec_prefix.j0 k a0 ((bt a0 0) == 48)) else (none)) else (spec_prefix.j0 k a0 false)) = some (r1, r2) := h
  clear h
  have HC2 := Aside0.mk H
  clear H
  go_enter Tryz.func10, Tryz.ntmps10
  go_upto_region 1 with (fail)
  go_cut [11] (fun v11 wc => ∃ (kq : Nat) (x11_1 : Bool), v11 = .bool x11_1 ∧ Aside0 (spec_prefix.j0 kq a0 x11_1 = some (r1, r2)) ∧ Aside0 (kq ≤ k) ∧ Drawn0 w wc)
  case first =>
    have H := HC2.out
    clear HC2
    by_cases c3 : (a0.size : Int) > 1
    · rw [if_pos c3] at H
      have c3b0 : decide (1 < (a0.size : Int)) = true := decide_eq_true c3
      have c3b1 : decide (1 < a0.size) = true := decide_eq_true (by omega)
      clear c3
      (first | rw [c3b0] | (simp only [i64_w, i32_w]; rw [c3b0]) | skip)
      by_cases c4 : 0 < (a0.size : Int)
      · rw [if_pos c4] at H
        have c4b0 : decide (0 < (a0.size : Int)) = true := decide_eq_true c4
        have c4b1 : decide (0 < a0.size) = true := decide_eq_true (by omega)
        clear c4
        have H' := Aside0.mk H
        clear H
        have p5 : 0 ≤ (0 : Int) := (by omega)
        have q5 : 0 < a0.size := (by have : (0 : Int) < (a0.size : Int) := of_decide_eq_true (by first | (with_reducible assumption) | assumption); omega)
        have hx5 : ∀ h : 0 < a0.size, ((a0[0]'h).toNat : Int) = bt a0 0 := bt_at a0 0
        clear p5
        have qi5 : (0 < (a0.size : Int)) = True := eq_true (of_decide_eq_true (by first | (with_reducible assumption) | assumption))
        replace q5 := eq_true q5
        go_wp2
        go_meet
        case rel => exact ⟨_, (((bt a0 0) == 48)), (by first | rfl | (simp; done) | (simp [*]; done)), H', ⟨by first | omega | exact Nat.le_refl _⟩, by repeat (first | exact Drawn0.refl _ | apply Drawn0.step)⟩
      · rw [if_neg c4] at H
        exact absurd H (by simp)
    · rw [if_neg c3] at H
      have c3b0 : decide (1 < (a0.size : Int)) = false := decide_eq_false c3
      have c3b1 : decide (1 < a0.size) = false := decide_eq_false (by omega)
      clear c3
      (first | rw [c3b0] | (simp only [i64_w, i32_w]; rw [c3b0]) | skip)
      have H' := Aside0.mk H
      clear H
      go_wp2
      go_meet
      case rel => exact ⟨_, (false), (by first | rfl | (simp; done) | (simp [*]; done)), H', ⟨by first | omega | exact Nat.le_refl _⟩, by repeat (first | exact Drawn0.refl _ | apply Drawn0.step)⟩
  case rest =>
    clear HC2
    try clear c1
    try clear p2
    try clear c3
    try clear c3b0
    try clear c3b1
    try clear c4
    try clear c4b0
    try clear c4b1
    try clear p5
    try clear q5
    try clear hx5
    try clear qi5
    try clear p5
    try clear q5
    obtain ⟨kq, x11_1, rfl, HA, HJ1, ⟨mc1, rfl⟩⟩ := hcut
    cases kq with
    | zero => exact absurd HA.out (by simp [spec_prefix.j0])
    | succ kj1 =>
      have H := HA.out
      clear HA
      simp only [spec_prefix.j0] at H
      by_cases c6 : x11_1 = true
      · subst c6
        have H1 : (if 1 < (a0.size : Int) then (if (Go.bits .or .u8 (bt a0 1) 32) = 120 then (some (16, 2)) else (if (Go.bits .or .u8 (bt a0 1) 32) = 111 then (some (8, 2)) else (if (Go.bits .or .u8 (bt a0 1) 32) = 98 then (some (2, 2)) else (some (10, 0))))) else (none)) = some (r1, r2) := by rw [if_pos rfl] at H; exact H
        clear H
        have H := H1
        clear H1
        by_cases c7 : 1 < (a0.size : Int)
        · rw [if_pos c7] at H
          have c7b0 : decide (1 < (a0.size : Int)) = true := decide_eq_true c7
          have c7b1 : decide (1 < a0.size) = true := decide_eq_true (by omega)
          clear c7
          by_cases c9 : (Go.bits .or .u8 (bt a0 1) 32) = 120
          · rw [if_pos c9] at H
            have c9b0 : ((Go.bits .or .u8 (bt a0 1) 32) == 120) = true := beq_iff_eq.mpr c9
            have c9b1 : ((Go.bits .or .u8 (bt a0 1) 32) != 120) = false := bne_eq_false_iff_eq.mpr c9
            clear c9
            simp only [Option.some.injEq, Prod.mk.injEq] at H
            obtain ⟨rfl, rfl⟩ := H
            have p8 : 0 ≤ (1 : Int) := (by omega)
            have q8 : 1 < a0.size := (by have : (1 : Int) < (a0.size : Int) := of_decide_eq_true (by first | (with_reducible assumption) | assumption); omega)
            have hx8 : ∀ h : 1 < a0.size, ((a0[1]'h).toNat : Int) = bt a0 1 := bt_at a0 1
            clear p8
            have qi8 : (1 < (a0.size : Int)) = True := eq_true (of_decide_eq_true (by first | (with_reducible assumption) | assumption))
            replace q8 := eq_true q8
            go_wp2
            go_ret2
            exact ⟨by first | rfl | (simp; done) | (simp [*]; done), by repeat (first | exact Drawn0.refl _ | apply Drawn0.step)⟩
          · rw [if_neg c9] at H
            have c9b0 : ((Go.bits .or .u8 (bt a0 1) 32) == 120) = false := beq_eq_false_iff_ne.mpr c9
            have c9b1 : ((Go.bits .or .u8 (bt a0 1) 32) != 120) = true := bne_iff_ne.mpr c9
            by_cases c10 : (Go.bits .or .u8 (bt a0 1) 32) = 111
            · rw [if_pos c10] at H
              have c10b0 : ((Go.bits .or .u8 (bt a0 1) 32) == 111) = true := beq_iff_eq.mpr c10
              have c10b1 : ((Go.bits .or .u8 (bt a0 1) 32) != 111) = false := bne_eq_false_iff_eq.mpr c10
              clear c10
              simp only [Option.some.injEq, Prod.mk.injEq] at H
              obtain ⟨rfl, rfl⟩ := H
              have p8 : 0 ≤ (1 : Int) := (by omega)
              have q8 : 1 < a0.size := (by have : (1 : Int) < (a0.size : Int) := of_decide_eq_true (by first | (with_reducible assumption) | assumption); omega)
              have hx8 : ∀ h : 1 < a0.size, ((a0[1]'h).toNat : Int) = bt a0 1 := bt_at a0 1
              clear p8
              have qi8 : (1 < (a0.size : Int)) = True := eq_true (of_decide_eq_true (by first | (with_reducible assumption) | assumption))
              replace q8 := eq_true q8
              go_wp2
              go_ret2
              exact ⟨by first | rfl | (simp; done) | (simp [*]; done), by repeat (first | exact Drawn0.refl _ | apply Drawn0.step)⟩
            · rw [if_neg c10] at H
              have c10b0 : ((Go.bits .or .u8 (bt a0 1) 32) == 111) = false := beq_eq_false_iff_ne.mpr c10
              have c10b1 : ((Go.bits .or .u8 (bt a0 1) 32) != 111) = true := bne_iff_ne.mpr c10
              by_cases c11 : (Go.bits .or .u8 (bt a0 1) 32) = 98
              · rw [if_pos c11] at H
                have c11b0 : ((Go.bits .or .u8 (bt a0 1) 32) == 98) = true := beq_iff_eq.mpr c11
                have c11b1 : ((Go.bits .or .u8 (bt a0 1) 32) != 98) = false := bne_eq_false_iff_eq.mpr c11
                clear c11
                simp only [Option.some.injEq, Prod.mk.injEq] at H
                obtain ⟨rfl, rfl⟩ := H
                have p8 : 0 ≤ (1 : Int) := (by omega)
                have q8 : 1 < a0.size := (by have : (1 : Int) < (a0.size : Int) := of_decide_eq_true (by first | (with_reducible assumption) | assumption); omega)
                have hx8 : ∀ h : 1 < a0.size, ((a0[1]'h).toNat : Int) = bt a0 1 := bt_at a0 1
                clear p8
                have qi8 : (1 < (a0.size : Int)) = True := eq_true (of_decide_eq_true (by first | (with_reducible assumption) | assumption))
                replace q8 := eq_true q8
                go_wp2
                go_ret2
                exact ⟨by first | rfl | (simp; done) | (simp [*]; done), by repeat (first | exact Drawn0.refl _ | apply Drawn0.step)⟩
              · rw [if_neg c11] at H
                have c11b0 : ((Go.bits .or .u8 (bt a0 1) 32) == 98) = false := beq_eq_false_iff_ne.mpr c11
                have c11b1 : ((Go.bits .or .u8 (bt a0 1) 32) != 98) = true := bne_iff_ne.mpr c11
                simp only [Option.some.injEq, Prod.mk.injEq] at H
                obtain ⟨rfl, rfl⟩ := H
                have p8 : 0 ≤ (1 : Int) := (by omega)
                have q8 : 1 < a0.size := (by have : (1 : Int) < (a0.size : Int) := of_decide_eq_true (by first | (with_reducible assumption) | assumption); omega)
                have hx8 : ∀ h : 1 < a0.size, ((a0[1]'h).toNat : Int) = bt a0 1 := bt_at a0 1
                clear p8
                have qi8 : (1 < (a0.size : Int)) = True := eq_true (of_decide_eq_true (by first | (with_reducible assumption) | assumption))
                replace q8 := eq_true q8
                go_wp2
                go_ret2
                exact ⟨by first | rfl | (simp; done) | (simp [*]; done), by repeat (first | exact Drawn0.refl _ | apply Drawn0.step)⟩
        · rw [if_neg c7] at H
          exact absurd H (by simp)
      · replace c6 := Bool.eq_false_iff.mpr c6
        subst c6
        have H1 : (some (10, 0)) = some (r1, r2) := by rw [if_neg (show ¬ (false = true) by decide)] at H; exact H
        clear H
        have H := H1
        clear H1
        simp only [Option.some.injEq, Prod.mk.injEq] at H
        obtain ⟨rfl, rfl⟩ := H
        go_wp2
        go_ret2
        exact ⟨by first | rfl | (simp; done) | (simp [*]; done), by repeat (first | exact Drawn0.refl _ | apply Drawn0.step)⟩

/-! ### spec_Add: function 19 -/
mutual
def spec_Add.l0 : Nat → List Int → List Int → List Int → Int → Int → Option (List Int)
  | 0, _, _, _, _, _ => none
  | k + 1, x0, x1, x5, x6, x7 => if x7 < (x0.length : Int) then (spec_Add.j1 k x0 x1 x5 x6 x7 true) else (spec_Add.j1 k x0 x1 x5 x6 x7 (decide (x7 < (x1.length : Int))))
def spec_Add.j1 : Nat → List Int → List Int → List Int → Int → Int → Bool → Option (List Int)
  | 0, _, _, _, _, _, _ => none
  | k + 1, x0, x1, x5, x6, x7, x18 => if x18 = true then (if x7 < (x0.length : Int) then (if 0 ≤ x7 then (if x7 < (x1.length : Int) then (if x5.length < 17592186044416 then (spec_Add.l0 k x0 x1 (x5 ++ [Int.tmod (wrap64 ((wrap64 (x6 + (rd x0 x7))) + (rd x1 x7))) 65536]) (wrap64 (Int.tdiv (wrap64 ((wrap64 (x6 + (rd x0 x7))) + (rd x1 x7))) 65536)) (wrap64 (x7 + 1))) else (none)) else (if x5.length < 17592186044416 then (spec_Add.l0 k x0 x1 (x5 ++ [Int.tmod (wrap64 (x6 + (rd x0 x7))) 65536]) (wrap64 (Int.tdiv (wrap64 (x6 + (rd x0 x7))) 65536)) (wrap64 (x7 + 1))) else (none))) else (none)) else (if x7 < (x1.length : Int) then (if 0 ≤ x7 then (if x5.length < 17592186044416 then (spec_Add.l0 k x0 x1 (x5 ++ [Int.tmod (wrap64 (x6 + (rd x1 x7))) 65536]) (wrap64 (Int.tdiv (wrap64 (x6 + (rd x1 x7))) 65536)) (wrap64 (x7 + 1))) else (none)) else (none)) else (if x5.length < 17592186044416 then (spec_Add.l0 k x0 x1 (x5 ++ [Int.tmod x6 65536]) (wrap64 (Int.tdiv x6 65536)) (wrap64 (x7 + 1))) else (none)))) else (if x5.length < 17592186044416 then ((spec_trim.f k (x5 ++ [x6])).bind fun t173 => (some t173)) else (none))
end
def spec_Add.f (k : Nat) (l0 : List Int) (l1 : List Int) : Option (List Int) := spec_Add.l0 k l0 l1 (([] : List Int)) 0 0
theorem spec_Add.mono_l : ∀ k, (∀ y0 y1 y2 y3 y4, LeO (spec_Add.l0 k y0 y1 y2 y3 y4) (spec_Add.l0 (k + 1) y0 y1 y2 y3 y4)) ∧ (∀ y0 y1 y2 y3 y4 y5, LeO (spec_Add.j1 k y0 y1 y2 y3 y4 y5) (spec_Add.j1 (k + 1) y0 y1 y2 y3 y4 y5))
  | 0 => ⟨fun _ _ _ _ _ r h => by simp [spec_Add.l0] at h, fun _ _ _ _ _ _ r h => by simp [spec_Add.j1] at h⟩
  | k + 1 => by
    obtain ⟨ih0, ih1⟩ := spec_Add.mono_l k
    refine ⟨?_, ?_⟩
    · intro y0 y1 y2 y3 y4
      unfold spec_Add.l0
      repeat' first
      | (with_reducible exact ih0 _ _ _ _ _)
      | (with_reducible exact ih1 _ _ _ _ _ _)
      | (with_reducible exact spec_trim.mono _ _)
      | (with_reducible exact LeO.refl _)
      | (with_reducible exact LeO.none _)
      | (with_reducible refine LeO.ite ?_ ?_)
      | (with_reducible refine LeO.bind ?_ (fun _ => ?_))
      | exact ih0 _ _ _ _ _
      | exact ih1 _ _ _ _ _ _
      | exact spec_trim.mono _ _
      | exact LeO.none _
      | refine LeO.ite ?_ ?_
      | refine LeO.bind ?_ (fun _ => ?_)
    · intro y0 y1 y2 y3 y4 y5
      unfold spec_Add.j1
      repeat' first
      | (with_reducible exact ih0 _ _ _ _ _)
      | (with_reducible exact ih1 _ _ _ _ _ _)
      | (with_reducible exact spec_trim.mono _ _)
      | (with_reducible exact LeO.refl _)
      | (with_reducible exact LeO.none _)
      | (with_reducible refine LeO.ite ?_ ?_)
      | (with_reducible refine LeO.bind ?_ (fun _ => ?_))
      | exact ih0 _ _ _ _ _
      | exact ih1 _ _ _ _ _ _
      | exact spec_trim.mono _ _
      | exact LeO.none _
      | refine LeO.ite ?_ ?_
      | refine LeO.bind ?_ (fun _ => ?_)
theorem spec_Add.mono : ∀ a0 a1 k, LeO (spec_Add.f k a0 a1) (spec_Add.f (k + 1) a0 a1) := by
  intro a0 a1 k
  obtain ⟨ih0, ih1⟩ := spec_Add.mono_l k
  unfold spec_Add.f
  repeat' first
      | (with_reducible exact ih0 _ _ _ _ _)
      | (with_reducible exact ih1 _ _ _ _ _ _)
      | (with_reducible exact spec_trim.mono _ _)
      | (with_reducible exact LeO.refl _)
      | (with_reducible exact LeO.none _)
      | (with_reducible refine LeO.ite ?_ ?_)
      | (with_reducible refine LeO.bind ?_ (fun _ => ?_))
      | exact ih0 _ _ _ _ _
      | exact ih1 _ _ _ _ _ _
      | exact spec_trim.mono _ _
      | exact LeO.none _
      | refine LeO.ite ?_ ?_
      | refine LeO.bind ?_ (fun _ => ?_)
set_option maxHeartbeats 8000000 in
set_option maxRecDepth 100000 in
theorem spec_Add.calls (k : Nat) (A0 : Option Addr) (c0 : Nat) (l0 : List Int) (A1 : Option Addr) (c1 : Nat) (l1 : List Int) (r : List Int) (w : World) (hr0 : Kd.C (Kd.int .i64) w A0 l0.length l0) (hc0 : l0.length ≤ c0) (hr1 : Kd.C (Kd.int .i64) w A1 l1.length l1) (hc1 : l1.length ≤ c1) (h : spec_Add.f k l0 l1 = some r) :
    Calls Tryz.prog 19 #[.slice A0 l0.length c0, .slice A1 l1.length c1] w fun e w' => ∃ v0_ : Value, e = .returned (v0_) ∧ Kd.V (Kd.int .i64) 3 w' w.heap.size (fun k_ => (w.heap.size ≤ k_)) v0_ r ∧ Below w.heap.size w w' := by
  have HR0 := Aside0.mk hr0
  have HC0 := Aside0.mk hc0
  clear hr0 hc0
  have HR1 := Aside0.mk hr1
  have HC1 := Aside0.mk hc1
  clear hr1 hc1
  have HB := Aside0.mk (Below.refl w.heap.size w)
  have H : (spec_Add.l0 k l0 l1 (([] : List Int)) 0 0) = some r := h
  clear h
  obtain ⟨y167, hy167⟩ : ∃ y_ : List Int, y_ = (([] : List Int)) := ⟨_, rfl⟩
  replace H : (spec_Add.l0 k l0 l1 y167 0 0) = some r := by first | (rw [hy167]; with_reducible exact H) | (have H2_ := (Option.bind_some _ _).symm.trans H; rw [hy167]; with_reducible exact H2_) | (have H2_ := (Option.bind_some _ _).symm.trans H; with_reducible exact H2_) | with_reducible exact H | (rw [hy167]; exact H) | exact H
  have Ny167 := Aside0.mk hy167
  clear hy167
  have H' := Aside0.mk H
  clear H
  go_enter Tryz.func19, Tryz.ntmps19
  go_wp2_with (first | ((with_reducible refine gate_dst (N := 8) rfl ?_); (try (refine gate_guard (by rfl) ?_; dsimp only)); refine Kd.R_lit (Kd.int .i64) _ 3 ?hg (N := 8) ?hd (xs := ([] : List Int)) (inner := []) (ok := fun _ => True) (okp := fun _ => True) ?hr ?hp (fun _ hk => hk) trivial (Below.refl _ _) (Nat.le_refl _) (by simp) ?_; (case hd => rfl); (case hg => rfl); (case hr => first | (go_simp; done) | (go_simp; rfl)); (case hp => exact (Reps.none _ _)); intro v168 w3 ho4 hb hg_ hnew_; clear hg_ hnew_; (first | rw [← Ny167.out] at ho4 | (simp only [Int.reduceToNat] at ho4; rw [← Ny167.out] at ho4)); have n0_ := Aside0.mk (Kd.R_lower (Kd.R_newM (M := fun k_ => (w.heap.size ≤ k_)) ho4 (below_size (by repeat (first | (with_reducible first | exact HB.out | apply below_alloc | apply pw_below_drewN | apply below_drew1) | exact HB.out))) (fun k_ h_ => h_)) (below_size (by repeat (first | (with_reducible first | exact HB.out | apply below_alloc | apply pw_below_drewN | apply below_drew1) | exact HB.out)))); have n1_ := Aside0.mk (below_step (by repeat (first | (with_reducible first | exact HB.out | apply below_alloc | apply pw_below_drewN | apply below_drew1) | exact HB.out)) hb); clear HB; have HO169 := n0_; have HB := n1_; clear n0_ n1_; clear hb ho4))
  go_loopg [5, 6, 7] k (fun kq v5 v6 v7 w' => ∃ (x5_1 : List Int) (x6_1 : Int) (x7_1 : Int), v6 = .int .i64 x6_1 ∧ v7 = .int .i64 x7_1 ∧ Aside0 (spec_Add.l0 kq l0 l1 x5_1 x6_1 x7_1 = some r) ∧ Aside0 (kq ≤ k) ∧ Aside0 (Kd.R (Kd.int .i64) 3 w' w.heap.size (fun k_ => (w.heap.size ≤ k_)) v5 x5_1) ∧ Aside0 (Below w.heap.size w w'))
  case atStart => exact ⟨(y167), (0), (0), (by first | rfl | (simp; done) | (simp [*]; done)), (by first | rfl | (simp; done) | (simp [*]; done)), H', ⟨Nat.le_refl _⟩, ⟨by (with_reducible repeat (first | apply Kd.R_alloc | apply Kd.R_drewN | apply Kd.R_drew)); exact Kd.R_mono HO169.out (fun _ hk => hk.1)⟩, ⟨by repeat (first | (with_reducible first | exact HB.out | apply below_alloc | apply pw_below_drewN | apply below_drew1) | exact HB.out)⟩⟩
  case round =>
    clear H'
    try clear c1
    try clear p2
    obtain ⟨x5_1, x6_1, x7_1, rfl, rfl, HA, HK1, HO_5, HB⟩ := hrel
    cases gk with
    | zero => exact absurd HA.out (by simp [spec_Add.l0])
    | succ k1 =>
      have H := HA.out
      clear HA
      simp only [spec_Add.l0] at H
      have HC5 := Aside0.mk H
      clear H
      go_upto_region 4 with (fail)
      go_cut [18] (fun v18 wc => ∃ (kq : Nat) (x18_4 : Bool), v18 = .bool x18_4 ∧ Aside0 (spec_Add.j1 kq l0 l1 x5_1 x6_1 x7_1 x18_4 = some r) ∧ Aside0 (kq ≤ k1) ∧ Aside0 (Kd.R (Kd.int .i64) 3 wc w.heap.size (fun k_ => (w.heap.size ≤ k_)) u5 x5_1) ∧ Aside0 (Below w.heap.size w wc))
      case first =>
        have H := HC5.out
        clear HC5
        by_cases c6 : x7_1 < (l0.length : Int)
        · rw [if_pos c6] at H
          have c6b0 : decide (x7_1 < (l0.length : Int)) = true := decide_eq_true c6
          clear c6
          (first | rw [c6b0] | (simp only [i64_w, i32_w]; rw [c6b0]) | skip)
          have H' := Aside0.mk H
          clear H
          go_wp2
          go_meet
          case rel => exact ⟨_, (true), (by first | rfl | (simp; done) | (simp [*]; done)), H', ⟨by have := HK1.out; first | omega | exact Nat.le_refl _⟩, ⟨by (with_reducible repeat (first | apply Kd.R_alloc | apply Kd.R_drewN | apply Kd.R_drew)); exact HO_5.out⟩, ⟨by repeat (first | (with_reducible first | exact HB.out | apply below_alloc | apply pw_below_drewN | apply below_drew1) | exact HB.out)⟩⟩
        · rw [if_neg c6] at H
          have c6b0 : decide (x7_1 < (l0.length : Int)) = false := decide_eq_false c6
          clear c6
          (first | rw [c6b0] | (simp only [i64_w, i32_w]; rw [c6b0]) | skip)
          have H' := Aside0.mk H
          clear H
          go_wp2
          go_meet
          case rel => exact ⟨_, (decide (x7_1 < (l1.length : Int))), (by first | rfl | (simp; done) | (simp [*]; done)), H', ⟨by have := HK1.out; first | omega | exact Nat.le_refl _⟩, ⟨by (with_reducible repeat (first | apply Kd.R_alloc | apply Kd.R_drewN | apply Kd.R_drew)); exact HO_5.out⟩, ⟨by repeat (first | (with_reducible first | exact HB.out | apply below_alloc | apply pw_below_drewN | apply below_drew1) | exact HB.out)⟩⟩
      case rest =>
        clear HC5
        try clear c1
        try clear p2
        try clear c6
        try clear c6b0
        try clear p2
        obtain ⟨kq, x18_4, rfl, HA, HJ4, HO_5, HB⟩ := hcut
        cases kq with
        | zero => exact absurd HA.out (by simp [spec_Add.j1])
        | succ kj4 =>
          have H := HA.out
          clear HA
          simp only [spec_Add.j1] at H
          by_cases c7 : x18_4 = true
          · subst c7
            have H1 : (if x7_1 < (l0.length : Int) then (if 0 ≤ x7_1 then (if x7_1 < (l1.length : Int) then (if x5_1.length < 17592186044416 then (spec_Add.l0 kj4 l0 l1 (x5_1 ++ [Int.tmod (wrap64 ((wrap64 (x6_1 + (rd l0 x7_1))) + (rd l1 x7_1))) 65536]) (wrap64 (Int.tdiv (wrap64 ((wrap64 (x6_1 + (rd l0 x7_1))) + (rd l1 x7_1))) 65536)) (wrap64 (x7_1 + 1))) else (none)) else (if x5_1.length < 17592186044416 then (spec_Add.l0 kj4 l0 l1 (x5_1 ++ [Int.tmod (wrap64 (x6_1 + (rd l0 x7_1))) 65536]) (wrap64 (Int.tdiv (wrap64 (x6_1 + (rd l0 x7_1))) 65536)) (wrap64 (x7_1 + 1))) else (none))) else (none)) else (if x7_1 < (l1.length : Int) then (if 0 ≤ x7_1 then (if x5_1.length < 17592186044416 then (spec_Add.l0 kj4 l0 l1 (x5_1 ++ [Int.tmod (wrap64 (x6_1 + (rd l1 x7_1))) 65536]) (wrap64 (Int.tdiv (wrap64 (x6_1 + (rd l1 x7_1))) 65536)) (wrap64 (x7_1 + 1))) else (none)) else (none)) else (if x5_1.length < 17592186044416 then (spec_Add.l0 kj4 l0 l1 (x5_1 ++ [Int.tmod x6_1 65536]) (wrap64 (Int.tdiv x6_1 65536)) (wrap64 (x7_1 + 1))) else (none)))) = some r := by rw [if_pos rfl] at H; exact H
            clear H
            have H := H1
            clear H1
            by_cases c8 : x7_1 < (l0.length : Int)
            · rw [if_pos c8] at H
              have c8b0 : decide (x7_1 < (l0.length : Int)) = true := decide_eq_true c8
              clear c8
              by_cases c9 : 0 ≤ x7_1
              · rw [if_pos c9] at H
                have c9b0 : decide (0 ≤ x7_1) = true := decide_eq_true c9
                clear c9
                by_cases c10 : x7_1 < (l1.length : Int)
                · rw [if_pos c10] at H
                  have c10b0 : decide (x7_1 < (l1.length : Int)) = true := decide_eq_true c10
                  clear c10
                  by_cases c11 : x5_1.length < 17592186044416
                  · rw [if_pos c11] at H
                    have LMc11 := Aside0.mk c11
                    clear c11
                    obtain ⟨y178, hy178⟩ : ∃ y_ : List Int, y_ = (x5_1 ++ [Int.tmod (wrap64 ((wrap64 (x6_1 + (rd l0 x7_1))) + (rd l1 x7_1))) 65536]) := ⟨_, rfl⟩
                    replace H : (spec_Add.l0 kj4 l0 l1 y178 (wrap64 (Int.tdiv (wrap64 ((wrap64 (x6_1 + (rd l0 x7_1))) + (rd l1 x7_1))) 65536)) (wrap64 (x7_1 + 1))) = some r := by first | (rw [hy178]; with_reducible exact H) | (have H2_ := (Option.bind_some _ _).symm.trans H; rw [hy178]; with_reducible exact H2_) | (have H2_ := (Option.bind_some _ _).symm.trans H; with_reducible exact H2_) | with_reducible exact H | (rw [hy178]; exact H) | exact H
                    have Ny178 := Aside0.mk hy178
                    clear hy178
                    have H' := Aside0.mk H
                    clear H
                    have p176 : 0 ≤ (x7_1 : Int) := of_decide_eq_true (by first | (with_reducible assumption) | assumption)
                    have q176 : x7_1 < (l0.length : Int) := of_decide_eq_true (by first | (with_reducible assumption) | assumption)
                    obtain ⟨ad176, e176, hx176_0⟩ := Kd.at_int HR0.out x7_1 p176 q176
                    cases e176
                    replace hx176_0 := (HB.out.cell (World.block_lt_of_cell? w _ hx176_0)).trans hx176_0
                    replace p176 := eq_true p176
                    replace q176 := eq_true q176
                    have p177 : 0 ≤ (x7_1 : Int) := of_decide_eq_true (by first | (with_reducible assumption) | assumption)
                    have q177 : x7_1 < (l1.length : Int) := of_decide_eq_true (by first | (with_reducible assumption) | assumption)
                    obtain ⟨ad177, e177, hx177_0⟩ := Kd.at_int HR1.out x7_1 p177 q177
                    cases e177
                    replace hx177_0 := (HB.out.cell (World.block_lt_of_cell? w _ hx177_0)).trans hx177_0
                    replace p177 := eq_true p177
                    replace q177 := eq_true q177
                    go_wp2_with (first | ((with_reducible refine gate_builtin (b := .append) (xs := #[.tmp 41, .tmp 44]) rfl ?_); (try (refine gate_guard (by rfl) ?_; dsimp only)); at_builtin; refine Kd.R_append (Kd.int .i64) (w0 := w) w.heap.size rfl (.tmp 41) (.tmp 44) 24 3 (.int .i64 0) 8 rfl Tryz.underlying24 info3 rfl (by decide) (by omega) u5 x5_1 (Int.tmod (wrap64 ((wrap64 (x6_1 + (rd l0 x7_1))) + (rd l1 x7_1))) 65536) [.int .i64 (Int.tmod (wrap64 ((wrap64 (x6_1 + (rd l0 x7_1))) + (rd l1 x7_1))) 65536)] (fun k_ => (w.heap.size ≤ k_)) (fun _ => False) rfl rfl ?aP (fun _ hk => hk.elim) ?aF ?aO ?aB ?aS ?aL ?_; (case aP => exact rfl); (case aB => exact (by repeat (first | (with_reducible first | exact HB.out | apply below_alloc | apply pw_below_drewN | apply below_drew1) | exact HB.out))); (case aF => exact (fun k_ hk => (Nat.le_trans (below_size (by repeat (first | (with_reducible first | exact HB.out | apply below_alloc | apply pw_below_drewN | apply below_drew1) | exact HB.out))) hk))); (case aO => exact (by (with_reducible repeat (first | apply Kd.R_alloc | apply Kd.R_drewN | apply Kd.R_drew)); exact HO_5.out)); (case aS => exact (below_size (by repeat (first | (with_reducible first | exact HB.out | apply below_alloc | apply pw_below_drewN | apply below_drew1) | exact HB.out)))); (case aL => have := LMc11.out; omega); intro v179 w12 ho hb hg hat; rw [← Ny178.out] at ho; have n0_ := Aside0.mk (hb); have n1_ := Aside0.mk (ho); clear HB; clear HO_5; have HB := n0_; have HO180 := n1_; clear n0_ n1_; clear ho hb hg hat))
                    go_roundg kj4
                    case measure => have := HK1.out; have := HJ4.out; omega
                    case rel => exact ⟨(y178), (wrap64 (Int.tdiv (wrap64 ((wrap64 (x6_1 + (rd l0 x7_1))) + (rd l1 x7_1))) 65536)), (wrap64 (x7_1 + 1)), (by first | rfl | (simp; done) | (simp [*]; done)), (by first | rfl | (simp; done) | (simp [*]; done)), H', ⟨by have := HK1.out; have := HJ4.out; omega⟩, ⟨by (with_reducible repeat (first | apply Kd.R_alloc | apply Kd.R_drewN | apply Kd.R_drew)); exact HO180.out⟩, ⟨by repeat (first | (with_reducible first | exact HB.out | apply below_alloc | apply pw_below_drewN | apply below_drew1) | exact HB.out)⟩⟩
                  · rw [if_neg c11] at H
                    exact absurd H (by simp)
                · rw [if_neg c10] at H
                  have c10b0 : decide (x7_1 < (l1.length : Int)) = false := decide_eq_false c10
                  clear c10
                  by_cases c13 : x5_1.length < 17592186044416
                  · rw [if_pos c13] at H
                    have LMc13 := Aside0.mk c13
                    clear c13
                    obtain ⟨y181, hy181⟩ : ∃ y_ : List Int, y_ = (x5_1 ++ [Int.tmod (wrap64 (x6_1 + (rd l0 x7_1))) 65536]) := ⟨_, rfl⟩
                    replace H : (spec_Add.l0 kj4 l0 l1 y181 (wrap64 (Int.tdiv (wrap64 (x6_1 + (rd l0 x7_1))) 65536)) (wrap64 (x7_1 + 1))) = some r := by first | (rw [hy181]; with_reducible exact H) | (have H2_ := (Option.bind_some _ _).symm.trans H; rw [hy181]; with_reducible exact H2_) | (have H2_ := (Option.bind_some _ _).symm.trans H; with_reducible exact H2_) | with_reducible exact H | (rw [hy181]; exact H) | exact H
                    have Ny181 := Aside0.mk hy181
                    clear hy181
                    have H' := Aside0.mk H
                    clear H
                    have p176 : 0 ≤ (x7_1 : Int) := of_decide_eq_true (by first | (with_reducible assumption) | assumption)
                    have q176 : x7_1 < (l0.length : Int) := of_decide_eq_true (by first | (with_reducible assumption) | assumption)
                    obtain ⟨ad176, e176, hx176_0⟩ := Kd.at_int HR0.out x7_1 p176 q176
                    cases e176
                    replace hx176_0 := (HB.out.cell (World.block_lt_of_cell? w _ hx176_0)).trans hx176_0
                    replace p176 := eq_true p176
                    replace q176 := eq_true q176
                    go_wp2_with (first | ((with_reducible refine gate_builtin (b := .append) (xs := #[.tmp 41, .tmp 44]) rfl ?_); (try (refine gate_guard (by rfl) ?_; dsimp only)); at_builtin; refine Kd.R_append (Kd.int .i64) (w0 := w) w.heap.size rfl (.tmp 41) (.tmp 44) 24 3 (.int .i64 0) 8 rfl Tryz.underlying24 info3 rfl (by decide) (by omega) u5 x5_1 (Int.tmod (wrap64 (x6_1 + (rd l0 x7_1))) 65536) [.int .i64 (Int.tmod (wrap64 (x6_1 + (rd l0 x7_1))) 65536)] (fun k_ => (w.heap.size ≤ k_)) (fun _ => False) rfl rfl ?aP (fun _ hk => hk.elim) ?aF ?aO ?aB ?aS ?aL ?_; (case aP => exact rfl); (case aB => exact (by repeat (first | (with_reducible first | exact HB.out | apply below_alloc | apply pw_below_drewN | apply below_drew1) | exact HB.out))); (case aF => exact (fun k_ hk => (Nat.le_trans (below_size (by repeat (first | (with_reducible first | exact HB.out | apply below_alloc | apply pw_below_drewN | apply below_drew1) | exact HB.out))) hk))); (case aO => exact (by (with_reducible repeat (first | apply Kd.R_alloc | apply Kd.R_drewN | apply Kd.R_drew)); exact HO_5.out)); (case aS => exact (below_size (by repeat (first | (with_reducible first | exact HB.out | apply below_alloc | apply pw_below_drewN | apply below_drew1) | exact HB.out)))); (case aL => have := LMc13.out; omega); intro v182 w14 ho hb hg hat; rw [← Ny181.out] at ho; have n0_ := Aside0.mk (hb); have n1_ := Aside0.mk (ho); clear HB; clear HO_5; have HB := n0_; have HO183 := n1_; clear n0_ n1_; clear ho hb hg hat))
                    go_roundg kj4
                    case measure => have := HK1.out; have := HJ4.out; omega
                    case rel => exact ⟨(y181), (wrap64 (Int.tdiv (wrap64 (x6_1 + (rd l0 x7_1))) 65536)), (wrap64 (x7_1 + 1)), (by first | rfl | (simp; done) | (simp [*]; done)), (by first | rfl | (simp; done) | (simp [*]; done)), H', ⟨by have := HK1.out; have := HJ4.out; omega⟩, ⟨by (with_reducible repeat (first | apply Kd.R_alloc | apply Kd.R_drewN | apply Kd.R_drew)); exact HO183.out⟩, ⟨by repeat (first | (with_reducible first | exact HB.out | apply below_alloc | apply pw_below_drewN | apply below_drew1) | exact HB.out)⟩⟩
                  · rw [if_neg c13] at H
                    exact absurd H (by simp)
              · rw [if_neg c9] at H
                exact absurd H (by simp)
            · rw [if_neg c8] at H
              have c8b0 : decide (x7_1 < (l0.length : Int)) = false := decide_eq_false c8
              clear c8
              by_cases c15 : x7_1 < (l1.length : Int)
              · rw [if_pos c15] at H
                have c15b0 : decide (x7_1 < (l1.length : Int)) = true := decide_eq_true c15
                clear c15
                by_cases c16 : 0 ≤ x7_1
                · rw [if_pos c16] at H
                  have c16b0 : decide (0 ≤ x7_1) = true := decide_eq_true c16
                  clear c16
                  by_cases c17 : x5_1.length < 17592186044416
                  · rw [if_pos c17] at H
                    have LMc17 := Aside0.mk c17
                    clear c17
                    obtain ⟨y185, hy185⟩ : ∃ y_ : List Int, y_ = (x5_1 ++ [Int.tmod (wrap64 (x6_1 + (rd l1 x7_1))) 65536]) := ⟨_, rfl⟩
                    replace H : (spec_Add.l0 kj4 l0 l1 y185 (wrap64 (Int.tdiv (wrap64 (x6_1 + (rd l1 x7_1))) 65536)) (wrap64 (x7_1 + 1))) = some r := by first | (rw [hy185]; with_reducible exact H) | (have H2_ := (Option.bind_some _ _).symm.trans H; rw [hy185]; with_reducible exact H2_) | (have H2_ := (Option.bind_some _ _).symm.trans H; with_reducible exact H2_) | with_reducible exact H | (rw [hy185]; exact H) | exact H
                    have Ny185 := Aside0.mk hy185
                    clear hy185
                    have H' := Aside0.mk H
                    clear H
                    have p184 : 0 ≤ (x7_1 : Int) := of_decide_eq_true (by first | (with_reducible assumption) | assumption)
                    have q184 : x7_1 < (l1.length : Int) := of_decide_eq_true (by first | (with_reducible assumption) | assumption)
                    obtain ⟨ad184, e184, hx184_0⟩ := Kd.at_int HR1.out x7_1 p184 q184
                    cases e184
                    replace hx184_0 := (HB.out.cell (World.block_lt_of_cell? w _ hx184_0)).trans hx184_0
                    replace p184 := eq_true p184
                    replace q184 := eq_true q184
                    go_wp2_with (first | ((with_reducible refine gate_builtin (b := .append) (xs := #[.tmp 41, .tmp 44]) rfl ?_); (try (refine gate_guard (by rfl) ?_; dsimp only)); at_builtin; refine Kd.R_append (Kd.int .i64) (w0 := w) w.heap.size rfl (.tmp 41) (.tmp 44) 24 3 (.int .i64 0) 8 rfl Tryz.underlying24 info3 rfl (by decide) (by omega) u5 x5_1 (Int.tmod (wrap64 (x6_1 + (rd l1 x7_1))) 65536) [.int .i64 (Int.tmod (wrap64 (x6_1 + (rd l1 x7_1))) 65536)] (fun k_ => (w.heap.size ≤ k_)) (fun _ => False) rfl rfl ?aP (fun _ hk => hk.elim) ?aF ?aO ?aB ?aS ?aL ?_; (case aP => exact rfl); (case aB => exact (by repeat (first | (with_reducible first | exact HB.out | apply below_alloc | apply pw_below_drewN | apply below_drew1) | exact HB.out))); (case aF => exact (fun k_ hk => (Nat.le_trans (below_size (by repeat (first | (with_reducible first | exact HB.out | apply below_alloc | apply pw_below_drewN | apply below_drew1) | exact HB.out))) hk))); (case aO => exact (by (with_reducible repeat (first | apply Kd.R_alloc | apply Kd.R_drewN | apply Kd.R_drew)); exact HO_5.out)); (case aS => exact (below_size (by repeat (first | (with_reducible first | exact HB.out | apply below_alloc | apply pw_below_drewN | apply below_drew1) | exact HB.out)))); (case aL => have := LMc17.out; omega); intro v186 w18 ho hb hg hat; rw [← Ny185.out] at ho; have n0_ := Aside0.mk (hb); have n1_ := Aside0.mk (ho); clear HB; clear HO_5; have HB := n0_; have HO187 := n1_; clear n0_ n1_; clear ho hb hg hat))
                    go_roundg kj4
                    case measure => have := HK1.out; have := HJ4.out; omega
                    case rel => exact ⟨(y185), (wrap64 (Int.tdiv (wrap64 (x6_1 + (rd l1 x7_1))) 65536)), (wrap64 (x7_1 + 1)), (by first | rfl | (simp; done) | (simp [*]; done)), (by first | rfl | (simp; done) | (simp [*]; done)), H', ⟨by have := HK1.out; have := HJ4.out; omega⟩, ⟨by (with_reducible repeat (first | apply Kd.R_alloc | apply Kd.R_drewN | apply Kd.R_drew)); exact HO187.out⟩, ⟨by repeat (first | (with_reducible first | exact HB.out | apply below_alloc | apply pw_below_drewN | apply below_drew1) | exact HB.out)⟩⟩
                  · rw [if_neg c17] at H
                    exact absurd H (by simp)
                · rw [if_neg c16] at H
                  exact absurd H (by simp)
              · rw [if_neg c15] at H
                have c15b0 : decide (x7_1 < (l1.length : Int)) = false := decide_eq_false c15
                clear c15
                by_cases c19 : x5_1.length < 17592186044416
                · rw [if_pos c19] at H
                  have LMc19 := Aside0.mk c19
                  clear c19
                  obtain ⟨y188, hy188⟩ : ∃ y_ : List Int, y_ = (x5_1 ++ [Int.tmod x6_1 65536]) := ⟨_, rfl⟩
                  replace H : (spec_Add.l0 kj4 l0 l1 y188 (wrap64 (Int.tdiv x6_1 65536)) (wrap64 (x7_1 + 1))) = some r := by first | (rw [hy188]; with_reducible exact H) | (have H2_ := (Option.bind_some _ _).symm.trans H; rw [hy188]; with_reducible exact H2_) | (have H2_ := (Option.bind_some _ _).symm.trans H; with_reducible exact H2_) | with_reducible exact H | (rw [hy188]; exact H) | exact H
                  have Ny188 := Aside0.mk hy188
                  clear hy188
                  have H' := Aside0.mk H
                  clear H
                  go_wp2_with (first | ((with_reducible refine gate_builtin (b := .append) (xs := #[.tmp 41, .tmp 44]) rfl ?_); (try (refine gate_guard (by rfl) ?_; dsimp only)); at_builtin; refine Kd.R_append (Kd.int .i64) (w0 := w) w.heap.size rfl (.tmp 41) (.tmp 44) 24 3 (.int .i64 0) 8 rfl Tryz.underlying24 info3 rfl (by decide) (by omega) u5 x5_1 (Int.tmod x6_1 65536) [.int .i64 (Int.tmod x6_1 65536)] (fun k_ => (w.heap.size ≤ k_)) (fun _ => False) rfl rfl ?aP (fun _ hk => hk.elim) ?aF ?aO ?aB ?aS ?aL ?_; (case aP => exact rfl); (case aB => exact (by repeat (first | (with_reducible first | exact HB.out | apply below_alloc | apply pw_below_drewN | apply below_drew1) | exact HB.out))); (case aF => exact (fun k_ hk => (Nat.le_trans (below_size (by repeat (first | (with_reducible first | exact HB.out | apply below_alloc | apply pw_below_drewN | apply below_drew1) | exact HB.out))) hk))); (case aO => exact (by (with_reducible repeat (first | apply Kd.R_alloc | apply Kd.R_drewN | apply Kd.R_drew)); exact HO_5.out)); (case aS => exact (below_size (by repeat (first | (with_reducible first | exact HB.out | apply below_alloc | apply pw_below_drewN | apply below_drew1) | exact HB.out)))); (case aL => have := LMc19.out; omega); intro v189 w20 ho hb hg hat; rw [← Ny188.out] at ho; have n0_ := Aside0.mk (hb); have n1_ := Aside0.mk (ho); clear HB; clear HO_5; have HB := n0_; have HO190 := n1_; clear n0_ n1_; clear ho hb hg hat))
                  go_roundg kj4
                  case measure => have := HK1.out; have := HJ4.out; omega
                  case rel => exact ⟨(y188), (wrap64 (Int.tdiv x6_1 65536)), (wrap64 (x7_1 + 1)), (by first | rfl | (simp; done) | (simp [*]; done)), (by first | rfl | (simp; done) | (simp [*]; done)), H', ⟨by have := HK1.out; have := HJ4.out; omega⟩, ⟨by (with_reducible repeat (first | apply Kd.R_alloc | apply Kd.R_drewN | apply Kd.R_drew)); exact HO190.out⟩, ⟨by repeat (first | (with_reducible first | exact HB.out | apply below_alloc | apply pw_below_drewN | apply below_drew1) | exact HB.out)⟩⟩
                · rw [if_neg c19] at H
                  exact absurd H (by simp)
          · replace c7 := Bool.eq_false_iff.mpr c7
            subst c7
            have H1 : (if x5_1.length < 17592186044416 then ((spec_trim.f kj4 (x5_1 ++ [x6_1])).bind fun t173 => (some t173)) else (none)) = some r := by rw [if_neg (show ¬ (false = true) by decide)] at H; exact H
            clear H
            have H := H1
            clear H1
            by_cases c21 : x5_1.length < 17592186044416
            · rw [if_pos c21] at H
              have LMc21 := Aside0.mk c21
              clear c21
              obtain ⟨y170, hy170⟩ : ∃ y_ : List Int, y_ = (x5_1 ++ [x6_1]) := ⟨_, rfl⟩
              replace H : ((spec_trim.f kj4 y170).bind fun t173 => (some t173)) = some r := by first | (rw [hy170]; with_reducible exact H) | (have H2_ := (Option.bind_some _ _).symm.trans H; rw [hy170]; with_reducible exact H2_) | (have H2_ := (Option.bind_some _ _).symm.trans H; with_reducible exact H2_) | with_reducible exact H | (rw [hy170]; exact H) | exact H
              have Ny170 := Aside0.mk hy170
              clear hy170
              replace H := Option.bind_eq_some_iff.mp H
              obtain ⟨t173, A220, H⟩ := H
              replace H : (some t173) = some r := H
              have A22 := Aside0.mk A220
              clear A220
              obtain rfl := Option.some.inj H
              go_wp2_with (first | ((with_reducible refine gate_builtin (b := .append) (xs := #[.tmp 48, .tmp 50]) rfl ?_); (try (refine gate_guard (by rfl) ?_; dsimp only)); at_builtin; refine Kd.R_append (Kd.int .i64) (w0 := w) w.heap.size rfl (.tmp 48) (.tmp 50) 24 3 (.int .i64 0) 8 rfl Tryz.underlying24 info3 rfl (by decide) (by omega) u5 x5_1 x6_1 [.int .i64 x6_1] (fun k_ => (w.heap.size ≤ k_)) (fun _ => False) rfl rfl ?aP (fun _ hk => hk.elim) ?aF ?aO ?aB ?aS ?aL ?_; (case aP => exact rfl); (case aB => exact (by repeat (first | (with_reducible first | exact HB.out | apply below_alloc | apply pw_below_drewN | apply below_drew1) | exact HB.out))); (case aF => exact (fun k_ hk => (Nat.le_trans (below_size (by repeat (first | (with_reducible first | exact HB.out | apply below_alloc | apply pw_below_drewN | apply below_drew1) | exact HB.out))) hk))); (case aO => exact (by (with_reducible repeat (first | apply Kd.R_alloc | apply Kd.R_drewN | apply Kd.R_drew)); exact HO_5.out)); (case aS => exact (below_size (by repeat (first | (with_reducible first | exact HB.out | apply below_alloc | apply pw_below_drewN | apply below_drew1) | exact HB.out)))); (case aL => have := LMc21.out; omega); intro v171 w23 ho hb hg hat; rw [← Ny170.out] at ho; have n0_ := Aside0.mk (hb); have n1_ := Aside0.mk (ho); clear HB; clear HO_5; have HB := n0_; have HO172 := n1_; clear n0_ n1_; clear ho hb hg hat; obtain ⟨Ao24, co24, eo24⟩ := Kd.R_slice HO172.out; subst eo24) | ((with_reducible refine gate_callee (f := 39) rfl ?_); refine goesL_ (some 52) rfl rfl Tryz.func39 (by kernel_rfl) rfl #[.slice Ao24 y170.length co24] rfl (by (try simp only [List.map_toArray, List.map_cons, List.map_nil]); first | done | rfl | (simp only [List.length_drop, List.length_take]; rfl)) ?_; (with_reducible refine (spec_trim.calls kj4 (fun k_ => some k_ = (.slice Ao24 y170.length co24 : Value).ownBlock) _ _ y170 t173 _ ?side1 A22.out).mono ?_); (case side1 => exact Kd.R_V (Kd.R_tight rfl (HO172.out))); rintro e w25 ⟨v174, rfl, ho0, hb⟩; refine ⟨_, rfl, ?_⟩; have n0_ := Aside0.mk (Kd.R_below (by (with_reducible repeat (first | apply Kd.R_alloc | apply Kd.R_drewN | apply Kd.R_drew)); exact HO172.out) hb); have n1_ := Aside0.mk (Kd.V_lower (Kd.V_mono (ok' := fun k_ => (w.heap.size ≤ k_)) ho0 (fun k_ hk_ => Or.elim hk_ (fun hs_ => ((HO172.out).1 k_ hs_.symm)) (fun hn_ => (Nat.le_trans (below_size (by repeat (first | (with_reducible first | exact HB.out | apply below_alloc | apply pw_below_drewN | apply below_drew1) | exact HB.out))) hn_)))) (below_size (by repeat (first | (with_reducible first | exact HB.out | apply below_alloc | apply pw_below_drewN | apply below_drew1) | exact HB.out)))); have n2_ := Aside0.mk (below_step (by repeat (first | (with_reducible first | exact HB.out | apply below_alloc | apply pw_below_drewN | apply below_drew1) | exact HB.out)) hb); clear HO172; clear HB; have HO172 := n0_; have HO175 := n1_; have HB := n2_; clear n0_ n1_ n2_; (try clear hb); (try clear hb2); (try clear hk); (try clear hi); (try clear ho0)))
              go_ret
              exact ⟨_, by first | rfl | (simp [errW_none, errW_some] <;> rfl) | (simp [*, errW_none, errW_some] <;> rfl), by (with_reducible repeat (first | apply Kd.V_alloc | apply Kd.V_drewN | apply Kd.V_drew)); exact HO175.out, by repeat (first | (with_reducible first | exact HB.out | apply below_alloc | apply pw_below_drewN | apply below_drew1) | exact HB.out)⟩
            · rw [if_neg c21] at H
              exact absurd H (by simp)

end Go.Proofs.YtnhonclncjgjoaaGreatDoor.Ps

-- PRINTED by print.py (a twelfth state) out of the translation. Not trusted: Lean checks it.
import Derived.Test.YtlfmgidpdmmpkaaGreatDoorPs0
import Derived.Test.YtlfmgidpdmmpkaaGreatDoorPs1
namespace Go.Proofs.YtlfmgidpdmmpkaaGreatDoor.Ps
open Go.RowKit Go.Proofs.YtlfmgidpdmmpkaaGreatDoorW.PrintWords Go.Proofs.YtlfmgidpdmmpkaaGreatDoorW.PrintLast Go.Proofs.YtlfmgidpdmmpkaaGreatDoorW.PrintMore
attribute [local go_sem] max2_int min2_int max_two min_two max_three min_three max_four min_four   -- for this text's walks alone
set_option linter.unusedVariables false
set_option linter.unusedSimpArgs false

/-! ### laws_quoted: function 5 -/
mutual
def laws_quoted.l0 : Nat → ByteArray → List Int → ByteArray → Int → Int → Option (ByteArray)
  | 0, _, _, _, _, _ => none
  | k + 1, x0, x1, x5, x10, x11 => if x11 < x10 then (if x11 < (x1.length : Int) then (if 0 ≤ x11 then (laws_quoted.j1 k x0 x1 x5 x11 (rd x1 x11) x10 x11) else (none)) else (laws_quoted.j1 k x0 x1 x5 x11 0 x10 x11)) else (if x5.size + 1 ≤ 9223372036854775807 then (some (x5 ++ (⟨#[34]⟩ : ByteArray))) else (none))
def laws_quoted.j1 : Nat → ByteArray → List Int → ByteArray → Int → Int → Int → Int → Option (ByteArray)
  | 0, _, _, _, _, _, _, _ => none
  | k + 1, x0, x1, x5, x6, x7, x10, x11 => if 0 ≤ x6 then (if x6 < (x0.size : Int) then (if (Int.tmod x7 4) = 0 then (if (wrap64 (bt x0 x6)) ≥ 32 then (if (wrap64 (bt x0 x6)) < 127 then (if (wrap64 (bt x0 x6)) = 34 then (laws_quoted.j2 k x0 x1 x5 x6 x7 (wrap64 (bt x0 x6)) x10 x11 false) else (laws_quoted.j2 k x0 x1 x5 x6 x7 (wrap64 (bt x0 x6)) x10 x11 ((wrap64 (bt x0 x6)) != 92))) else (laws_quoted.j2 k x0 x1 x5 x6 x7 (wrap64 (bt x0 x6)) x10 x11 false)) else (laws_quoted.j2 k x0 x1 x5 x6 x7 (wrap64 (bt x0 x6)) x10 x11 false)) else (laws_quoted.j2 k x0 x1 x5 x6 x7 (wrap64 (bt x0 x6)) x10 x11 false)) else (none)) else (none)
def laws_quoted.j2 : Nat → ByteArray → List Int → ByteArray → Int → Int → Int → Int → Int → Bool → Option (ByteArray)
  | 0, _, _, _, _, _, _, _, _, _ => none
  | k + 1, x0, x1, x5, x6, x7, x8, x10, x11, x31 => if x31 = true then (if 0 ≤ x6 then (if x6 ≤ (wrap64 (x6 + 1)) then (if (wrap64 (x6 + 1)) ≤ (x0.size : Int) then (if x5.size + (x0.extract (x6 : Int).toNat ((wrap64 (x6 + 1)) : Int).toNat).size ≤ 9223372036854775807 then (laws_quoted.l0 k x0 x1 (x5 ++ (x0.extract (x6 : Int).toNat ((wrap64 (x6 + 1)) : Int).toNat)) x10 (wrap64 (x11 + 1))) else (none)) else (none)) else (none)) else (none)) else (if (Int.tmod x7 4) = 1 then ((some (([(wrap64 (48 + (wrap64 (Int.tdiv x8 64)))) % 256, (wrap64 (48 + (Int.tmod (wrap64 (Int.tdiv x8 8)) 8))) % 256, (wrap64 (48 + (Int.tmod x8 8))) % 256] : List Int) : List Int)).bind fun y130 => (if 1 + (strOfNums y130).size ≤ 9223372036854775807 then (if x5.size + ((⟨#[92]⟩ : ByteArray) ++ (strOfNums y130)).size ≤ 9223372036854775807 then (laws_quoted.l0 k x0 x1 (x5 ++ ((⟨#[92]⟩ : ByteArray) ++ (strOfNums y130))) x10 (wrap64 (x11 + 1))) else (none)) else (none))) else (if (Int.tmod x7 4) = 2 then (laws_quoted.j3 k x0 x1 x5 x7 x8 x10 x11 (decide (x8 < 128))) else (laws_quoted.j3 k x0 x1 x5 x7 x8 x10 x11 false)))
def laws_quoted.j3 : Nat → ByteArray → List Int → ByteArray → Int → Int → Int → Int → Bool → Option (ByteArray)
  | 0, _, _, _, _, _, _, _, _ => none
  | k + 1, x0, x1, x5, x7, x8, x10, x11, x80 => if x80 = true then ((spec_Hex.f k x8 4).bind fun t133 => (if 2 + t133.size ≤ 9223372036854775807 then (if x5.size + ((⟨#[92, 117]⟩ : ByteArray) ++ t133).size ≤ 9223372036854775807 then (laws_quoted.l0 k x0 x1 (x5 ++ ((⟨#[92, 117]⟩ : ByteArray) ++ t133)) x10 (wrap64 (x11 + 1))) else (none)) else (none))) else (if (Int.tmod x7 4) = 3 then (laws_quoted.j4 k x0 x1 x5 x8 x10 x11 (decide (x8 < 128))) else (laws_quoted.j4 k x0 x1 x5 x8 x10 x11 false))
def laws_quoted.j4 : Nat → ByteArray → List Int → ByteArray → Int → Int → Int → Bool → Option (ByteArray)
  | 0, _, _, _, _, _, _, _ => none
  | k + 1, x0, x1, x5, x8, x10, x11, x93 => if x93 = true then ((spec_Hex.f k x8 8).bind fun t134 => (if 2 + t134.size ≤ 9223372036854775807 then (if x5.size + ((⟨#[92, 85]⟩ : ByteArray) ++ t134).size ≤ 9223372036854775807 then (laws_quoted.l0 k x0 x1 (x5 ++ ((⟨#[92, 85]⟩ : ByteArray) ++ t134)) x10 (wrap64 (x11 + 1))) else (none)) else (none))) else ((spec_Hex.f k x8 2).bind fun t135 => (if 2 + t135.size ≤ 9223372036854775807 then (if x5.size + ((⟨#[92, 120]⟩ : ByteArray) ++ t135).size ≤ 9223372036854775807 then (laws_quoted.l0 k x0 x1 (x5 ++ ((⟨#[92, 120]⟩ : ByteArray) ++ t135)) x10 (wrap64 (x11 + 1))) else (none)) else (none)))
end
def laws_quoted.f (k : Nat) (a0 : ByteArray) (l1 : List Int) : Option (ByteArray) := laws_quoted.l0 k a0 l1 (⟨#[34]⟩ : ByteArray) (a0.size : Int) 0
theorem laws_quoted.mono_l : ∀ k, (∀ y0 y1 y2 y3 y4, LeO (laws_quoted.l0 k y0 y1 y2 y3 y4) (laws_quoted.l0 (k + 1) y0 y1 y2 y3 y4)) ∧ (∀ y0 y1 y2 y3 y4 y5 y6, LeO (laws_quoted.j1 k y0 y1 y2 y3 y4 y5 y6) (laws_quoted.j1 (k + 1) y0 y1 y2 y3 y4 y5 y6)) ∧ (∀ y0 y1 y2 y3 y4 y5 y6 y7 y8, LeO (laws_quoted.j2 k y0 y1 y2 y3 y4 y5 y6 y7 y8) (laws_quoted.j2 (k + 1) y0 y1 y2 y3 y4 y5 y6 y7 y8)) ∧ (∀ y0 y1 y2 y3 y4 y5 y6 y7, LeO (laws_quoted.j3 k y0 y1 y2 y3 y4 y5 y6 y7) (laws_quoted.j3 (k + 1) y0 y1 y2 y3 y4 y5 y6 y7)) ∧ (∀ y0 y1 y2 y3 y4 y5 y6, LeO (laws_quoted.j4 k y0 y1 y2 y3 y4 y5 y6) (laws_quoted.j4 (k + 1) y0 y1 y2 y3 y4 y5 y6))
  | 0 => ⟨fun _ _ _ _ _ r h => by simp [laws_quoted.l0] at h, fun _ _ _ _ _ _ _ r h => by simp [laws_quoted.j1] at h, fun _ _ _ _ _ _ _ _ _ r h => by simp [laws_quoted.j2] at h, fun _ _ _ _ _ _ _ _ r h => by simp [laws_quoted.j3] at h, fun _ _ _ _ _ _ _ r h => by simp [laws_quoted.j4] at h⟩
  | k + 1 => by
    obtain ⟨ih0, ih1, ih2, ih3, ih4⟩ := laws_quoted.mono_l k
    refine ⟨?_, ?_, ?_, ?_, ?_⟩
    · intro y0 y1 y2 y3 y4
      unfold laws_quoted.l0
      repeat' first
      | (with_reducible exact ih0 _ _ _ _ _)
      | (with_reducible exact ih1 _ _ _ _ _ _ _)
      | (with_reducible exact ih2 _ _ _ _ _ _ _ _ _)
      | (with_reducible exact ih3 _ _ _ _ _ _ _ _)
      | (with_reducible exact ih4 _ _ _ _ _ _ _)
      | (with_reducible exact spec_Hex.mono _ _ _)
      | (with_reducible exact LeO.refl _)
      | (with_reducible exact LeO.none _)
      | (with_reducible refine LeO.ite ?_ ?_)
      | (with_reducible refine LeO.bind ?_ (fun _ => ?_))
      | exact ih0 _ _ _ _ _
      | exact ih1 _ _ _ _ _ _ _
      | exact ih2 _ _ _ _ _ _ _ _ _
      | exact ih3 _ _ _ _ _ _ _ _
      | exact ih4 _ _ _ _ _ _ _
      | exact spec_Hex.mono _ _ _
      | exact LeO.none _
      | refine LeO.ite ?_ ?_
      | refine LeO.bind ?_ (fun _ => ?_)
    · intro y0 y1 y2 y3 y4 y5 y6
      unfold laws_quoted.j1
      repeat' first
      | (with_reducible exact ih0 _ _ _ _ _)
      | (with_reducible exact ih1 _ _ _ _ _ _ _)
      | (with_reducible exact ih2 _ _ _ _ _ _ _ _ _)
      | (with_reducible exact ih3 _ _ _ _ _ _ _ _)
      | (with_reducible exact ih4 _ _ _ _ _ _ _)
      | (with_reducible exact spec_Hex.mono _ _ _)
      | (with_reducible exact LeO.refl _)
      | (with_reducible exact LeO.none _)
      | (with_reducible refine LeO.ite ?_ ?_)
      | (with_reducible refine LeO.bind ?_ (fun _ => ?_))
      | exact ih0 _ _ _ _ _
      | exact ih1 _ _ _ _ _ _ _
      | exact ih2 _ _ _ _ _ _ _ _ _
      | exact ih3 _ _ _ _ _ _ _ _
      | exact ih4 _ _ _ _ _ _ _
      | exact spec_Hex.mono _ _ _
      | exact LeO.none _
      | refine LeO.ite ?_ ?_
      | refine LeO.bind ?_ (fun _ => ?_)
    · intro y0 y1 y2 y3 y4 y5 y6 y7 y8
      unfold laws_quoted.j2
      repeat' first
      | (with_reducible exact ih0 _ _ _ _ _)
      | (with_reducible exact ih1 _ _ _ _ _ _ _)
      | (with_reducible exact ih2 _ _ _ _ _ _ _ _ _)
      | (with_reducible exact ih3 _ _ _ _ _ _ _ _)
      | (with_reducible exact ih4 _ _ _ _ _ _ _)
      | (with_reducible exact spec_Hex.mono _ _ _)
      | (with_reducible exact LeO.refl _)
      | (with_reducible exact LeO.none _)
      | (with_reducible refine LeO.ite ?_ ?_)
      | (with_reducible refine LeO.bind ?_ (fun _ => ?_))
      | exact ih0 _ _ _ _ _
      | exact ih1 _ _ _ _ _ _ _
      | exact ih2 _ _ _ _ _ _ _ _ _
      | exact ih3 _ _ _ _ _ _ _ _
      | exact ih4 _ _ _ _ _ _ _
      | exact spec_Hex.mono _ _ _
      | exact LeO.none _
      | refine LeO.ite ?_ ?_
      | refine LeO.bind ?_ (fun _ => ?_)
    · intro y0 y1 y2 y3 y4 y5 y6 y7
      unfold laws_quoted.j3
      repeat' first
      | (with_reducible exact ih0 _ _ _ _ _)
      | (with_reducible exact ih1 _ _ _ _ _ _ _)
      | (with_reducible exact ih2 _ _ _ _ _ _ _ _ _)
      | (with_reducible exact ih3 _ _ _ _ _ _ _ _)
      | (with_reducible exact ih4 _ _ _ _ _ _ _)
      | (with_reducible exact spec_Hex.mono _ _ _)
      | (with_reducible exact LeO.refl _)
      | (with_reducible exact LeO.none _)
      | (with_reducible refine LeO.ite ?_ ?_)
      | (with_reducible refine LeO.bind ?_ (fun _ => ?_))
      | exact ih0 _ _ _ _ _
      | exact ih1 _ _ _ _ _ _ _
      | exact ih2 _ _ _ _ _ _ _ _ _
      | exact ih3 _ _ _ _ _ _ _ _
      | exact ih4 _ _ _ _ _ _ _
      | exact spec_Hex.mono _ _ _
      | exact LeO.none _
      | refine LeO.ite ?_ ?_
      | refine LeO.bind ?_ (fun _ => ?_)
    · intro y0 y1 y2 y3 y4 y5 y6
      unfold laws_quoted.j4
      repeat' first
      | (with_reducible exact ih0 _ _ _ _ _)
      | (with_reducible exact ih1 _ _ _ _ _ _ _)
      | (with_reducible exact ih2 _ _ _ _ _ _ _ _ _)
      | (with_reducible exact ih3 _ _ _ _ _ _ _ _)
      | (with_reducible exact ih4 _ _ _ _ _ _ _)
      | (with_reducible exact spec_Hex.mono _ _ _)
      | (with_reducible exact LeO.refl _)
      | (with_reducible exact LeO.none _)
      | (with_reducible refine LeO.ite ?_ ?_)
      | (with_reducible refine LeO.bind ?_ (fun _ => ?_))
      | exact ih0 _ _ _ _ _
      | exact ih1 _ _ _ _ _ _ _
      | exact ih2 _ _ _ _ _ _ _ _ _
      | exact ih3 _ _ _ _ _ _ _ _
      | exact ih4 _ _ _ _ _ _ _
      | exact spec_Hex.mono _ _ _
      | exact LeO.none _
      | refine LeO.ite ?_ ?_
      | refine LeO.bind ?_ (fun _ => ?_)
theorem laws_quoted.mono : ∀ a0 a1 k, LeO (laws_quoted.f k a0 a1) (laws_quoted.f (k + 1) a0 a1) := by
  intro a0 a1 k
  obtain ⟨ih0, ih1, ih2, ih3, ih4⟩ := laws_quoted.mono_l k
  unfold laws_quoted.f
  repeat' first
      | (with_reducible exact ih0 _ _ _ _ _)
      | (with_reducible exact ih1 _ _ _ _ _ _ _)
      | (with_reducible exact ih2 _ _ _ _ _ _ _ _ _)
      | (with_reducible exact ih3 _ _ _ _ _ _ _ _)
      | (with_reducible exact ih4 _ _ _ _ _ _ _)
      | (with_reducible exact spec_Hex.mono _ _ _)
      | (with_reducible exact LeO.refl _)
      | (with_reducible exact LeO.none _)
      | (with_reducible refine LeO.ite ?_ ?_)
      | (with_reducible refine LeO.bind ?_ (fun _ => ?_))
      | exact ih0 _ _ _ _ _
      | exact ih1 _ _ _ _ _ _ _
      | exact ih2 _ _ _ _ _ _ _ _ _
      | exact ih3 _ _ _ _ _ _ _ _
      | exact ih4 _ _ _ _ _ _ _
      | exact spec_Hex.mono _ _ _
      | exact LeO.none _
      | refine LeO.ite ?_ ?_
      | refine LeO.bind ?_ (fun _ => ?_)
set_option maxHeartbeats 8000000 in
set_option maxRecDepth 100000 in
theorem laws_quoted.calls (k : Nat) (a0 : ByteArray) (A1 : Option Addr) (c1 : Nat) (l1 : List Int) (r : ByteArray) (w : World) (hr1 : Kd.C (Kd.int .u8) w A1 l1.length l1) (hc1 : l1.length ≤ c1) (h : laws_quoted.f k a0 l1 = some r) :
    Calls Tryz.prog 5 #[.string a0, .slice A1 l1.length c1] w fun e w' => e = .returned (.string r) ∧ Below w.heap.size w w' := by
  have HR1 := Aside0.mk hr1
  have HC1 := Aside0.mk hc1
  clear hr1 hc1
  have HB := Aside0.mk (Below.refl w.heap.size w)
  have H : (laws_quoted.l0 k a0 l1 (⟨#[34]⟩ : ByteArray) (a0.size : Int) 0) = some r := h
  clear h
  have H' := Aside0.mk H
  clear H
  go_enter Tryz.func5, Tryz.ntmps5
  go_wp2
  go_loopg [5, 11] k (fun kq v5 v11 w' => ∃ (x5_1 : ByteArray) (x11_1 : Int), v5 = .string x5_1 ∧ v11 = .int .i64 x11_1 ∧ Aside0 (laws_quoted.l0 kq a0 l1 x5_1 (a0.size : Int) x11_1 = some r) ∧ Aside0 (kq ≤ k) ∧ Aside0 (Below w.heap.size w w'))
  case atStart => exact ⟨((⟨#[34]⟩ : ByteArray)), (0), (by first | rfl | (simp; done) | (simp [*]; done)), (by first | rfl | (simp; done) | (simp [*]; done)), H', ⟨Nat.le_refl _⟩, ⟨by repeat (first | (with_reducible first | exact HB.out | apply below_alloc | apply pw_below_drewN | apply below_drew1) | exact HB.out)⟩⟩
  case round =>
    clear H'
    try clear c1
    try clear p2
    obtain ⟨x5_1, x11_1, rfl, rfl, HA, HK1, HB⟩ := hrel
    cases gk with
    | zero => exact absurd HA.out (by simp [laws_quoted.l0])
    | succ k1 =>
      have H := HA.out
      clear HA
      simp only [laws_quoted.l0] at H
      by_cases c3 : x11_1 < (a0.size : Int)
      · rw [if_pos c3] at H
        have c3b0 : decide (x11_1 < (a0.size : Int)) = true := decide_eq_true c3
        clear c3
        have HC4 := Aside0.mk H
        clear H
        go_upto_if 17 with (fail)
        go_cut [7] (fun v7 wc => ∃ (kq : Nat) (x7_3 : Int), v7 = .int .u8 x7_3 ∧ Aside0 (laws_quoted.j1 kq a0 l1 x5_1 x11_1 x7_3 (a0.size : Int) x11_1 = some r) ∧ Aside0 (kq ≤ k1) ∧ Aside0 (Below w.heap.size w wc))
        case first =>
          have H := HC4.out
          clear HC4
          by_cases c5 : x11_1 < (l1.length : Int)
          · rw [if_pos c5] at H
            have c5b0 : decide (x11_1 < (l1.length : Int)) = true := decide_eq_true c5
            clear c5
            (first | rw [c5b0] | (simp only [i64_w, i32_w]; rw [c5b0]) | skip)
            by_cases c6 : 0 ≤ x11_1
            · rw [if_pos c6] at H
              have c6b0 : decide (0 ≤ x11_1) = true := decide_eq_true c6
              clear c6
              have H' := Aside0.mk H
              clear H
              have p129 : 0 ≤ (x11_1 : Int) := of_decide_eq_true (by first | (with_reducible assumption) | assumption)
              have q129 : x11_1 < (l1.length : Int) := of_decide_eq_true (by first | (with_reducible assumption) | assumption)
              obtain ⟨ad129, e129, hx129_0⟩ := Kd.at_int HR1.out x11_1 p129 q129
              cases e129
              replace hx129_0 := (HB.out.cell (World.block_lt_of_cell? w _ hx129_0)).trans hx129_0
              replace p129 := eq_true p129
              replace q129 := eq_true q129
              go_wp2
              go_meet
              case rel => exact ⟨_, (rd l1 x11_1), (by first | rfl | (simp; done) | (simp [*]; done)), H', ⟨by have := HK1.out; first | omega | exact Nat.le_refl _⟩, ⟨by repeat (first | (with_reducible first | exact HB.out | apply below_alloc | apply pw_below_drewN | apply below_drew1) | exact HB.out)⟩⟩
            · rw [if_neg c6] at H
              exact absurd H (by simp)
          · rw [if_neg c5] at H
            have c5b0 : decide (x11_1 < (l1.length : Int)) = false := decide_eq_false c5
            clear c5
            (first | rw [c5b0] | (simp only [i64_w, i32_w]; rw [c5b0]) | skip)
            have H' := Aside0.mk H
            clear H
            go_wp2
            go_meet
            case rel => exact ⟨_, (0), (by first | rfl | (simp; done) | (simp [*]; done)), H', ⟨by have := HK1.out; first | omega | exact Nat.le_refl _⟩, ⟨by repeat (first | (with_reducible first | exact HB.out | apply below_alloc | apply pw_below_drewN | apply below_drew1) | exact HB.out)⟩⟩
        case rest =>
          clear HC4
          try clear c1
          try clear p1
          try clear q1
          try clear hx1
          try clear p2
          try clear c3
          try clear c3b0
          try clear c5
          try clear c5b0
          try clear c6
          try clear c6b0
          try clear hx129_0
          try clear p129
          try clear p2
          try clear q129
          obtain ⟨kq, x7_3, rfl, HA, HJ3, HB⟩ := hcut
          cases kq with
          | zero => exact absurd HA.out (by simp [laws_quoted.j1])
          | succ kj3 =>
            have H := HA.out
            clear HA
            simp only [laws_quoted.j1] at H
            by_cases c7 : 0 ≤ x11_1
            · rw [if_pos c7] at H
              have c7b0 : decide (0 ≤ x11_1) = true := decide_eq_true c7
              clear c7
              by_cases c8 : x11_1 < (a0.size : Int)
              · rw [if_pos c8] at H
                have c8b0 : decide (x11_1 < (a0.size : Int)) = true := decide_eq_true c8
                clear c8
                have HC10 := Aside0.mk H
                clear H
                have p9 : 0 ≤ (x11_1 : Int) := of_decide_eq_true (by first | (with_reducible assumption) | assumption)
                have q9 : x11_1 < (a0.size : Int) := of_decide_eq_true (by first | (with_reducible assumption) | assumption)
                have hx9 := bt_at a0 x11_1
                replace p9 := eq_true p9
                replace q9 := eq_true q9
                go_upto_region 10 with (fail)
                go_cut [31] (fun v31 wc => ∃ (kq : Nat) (x31_9 : Bool), v31 = .bool x31_9 ∧ Aside0 (laws_quoted.j2 kq a0 l1 x5_1 x11_1 x7_3 (wrap64 (bt a0 x11_1)) (a0.size : Int) x11_1 x31_9 = some r) ∧ Aside0 (kq ≤ kj3) ∧ Aside0 (Below w.heap.size w wc))
                case first =>
                  have H := HC10.out
                  clear HC10
                  by_cases c11 : (Int.tmod x7_3 4) = 0
                  · rw [if_pos c11] at H
                    have c11b0 : ((Int.tmod x7_3 4) == 0) = true := beq_iff_eq.mpr c11
                    have c11b1 : ((Int.tmod x7_3 4) != 0) = false := bne_eq_false_iff_eq.mpr c11
                    clear c11
                    (first | rw [c11b0] | (simp only [i64_w, i32_w]; rw [c11b0]) | skip)
                    by_cases c12 : (wrap64 (bt a0 x11_1)) ≥ 32
                    · rw [if_pos c12] at H
                      have c12b0 : decide (32 ≤ (wrap64 (bt a0 x11_1))) = true := decide_eq_true c12
                      clear c12
                      by_cases c13 : (wrap64 (bt a0 x11_1)) < 127
                      · rw [if_pos c13] at H
                        have c13b0 : decide ((wrap64 (bt a0 x11_1)) < 127) = true := decide_eq_true c13
                        clear c13
                        by_cases c14 : (wrap64 (bt a0 x11_1)) = 34
                        · rw [if_pos c14] at H
                          have c14b0 : ((wrap64 (bt a0 x11_1)) == 34) = true := beq_iff_eq.mpr c14
                          have c14b1 : ((wrap64 (bt a0 x11_1)) != 34) = false := bne_eq_false_iff_eq.mpr c14
                          clear c14
                          have H' := Aside0.mk H
                          clear H
                          go_wp2
                          go_meet
                          case rel => exact ⟨_, (false), (by first | rfl | (simp; done) | (simp [*]; done)), H', ⟨by have := HK1.out; have := HJ3.out; first | omega | exact Nat.le_refl _⟩, ⟨by repeat (first | (with_reducible first | exact HB.out | apply below_alloc | apply pw_below_drewN | apply below_drew1) | exact HB.out)⟩⟩
                        · rw [if_neg c14] at H
                          have c14b0 : ((wrap64 (bt a0 x11_1)) == 34) = false := beq_eq_false_iff_ne.mpr c14
                          have c14b1 : ((wrap64 (bt a0 x11_1)) != 34) = true := bne_iff_ne.mpr c14
                          have H' := Aside0.mk H
                          clear H
                          go_wp2
                          go_meet
                          case rel => exact ⟨_, (((wrap64 (bt a0 x11_1)) != 92)), (by first | rfl | (simp; done) | (simp [*]; done)), H', ⟨by have := HK1.out; have := HJ3.out; first | omega | exact Nat.le_refl _⟩, ⟨by repeat (first | (with_reducible first | exact HB.out | apply below_alloc | apply pw_below_drewN | apply below_drew1) | exact HB.out)⟩⟩
                      · rw [if_neg c13] at H
                        have c13b0 : decide ((wrap64 (bt a0 x11_1)) < 127) = false := decide_eq_false c13
                        clear c13
                        have H' := Aside0.mk H
                        clear H
                        go_wp2
                        go_meet
                        case rel => exact ⟨_, (false), (by first | rfl | (simp; done) | (simp [*]; done)), H', ⟨by have := HK1.out; have := HJ3.out; first | omega | exact Nat.le_refl _⟩, ⟨by repeat (first | (with_reducible first | exact HB.out | apply below_alloc | apply pw_below_drewN | apply below_drew1) | exact HB.out)⟩⟩
                    · rw [if_neg c12] at H
                      have c12b0 : decide (32 ≤ (wrap64 (bt a0 x11_1))) = false := decide_eq_false c12
                      clear c12
                      have H' := Aside0.mk H
                      clear H
                      go_wp2
                      go_meet
                      case rel => exact ⟨_, (false), (by first | rfl | (simp; done) | (simp [*]; done)), H', ⟨by have := HK1.out; have := HJ3.out; first | omega | exact Nat.le_refl _⟩, ⟨by repeat (first | (with_reducible first | exact HB.out | apply below_alloc | apply pw_below_drewN | apply below_drew1) | exact HB.out)⟩⟩
                  · rw [if_neg c11] at H
                    have c11b0 : ((Int.tmod x7_3 4) == 0) = false := beq_eq_false_iff_ne.mpr c11
                    have c11b1 : ((Int.tmod x7_3 4) != 0) = true := bne_iff_ne.mpr c11
                    (first | rw [c11b0] | (simp only [i64_w, i32_w]; rw [c11b0]) | skip)
                    have H' := Aside0.mk H
                    clear H
                    go_wp2
                    go_meet
                    case rel => exact ⟨_, (false), (by first | rfl | (simp; done) | (simp [*]; done)), H', ⟨by have := HK1.out; have := HJ3.out; first | omega | exact Nat.le_refl _⟩, ⟨by repeat (first | (with_reducible first | exact HB.out | apply below_alloc | apply pw_below_drewN | apply below_drew1) | exact HB.out)⟩⟩
                case rest =>
                  clear HC10
                  try clear c1
                  try clear p1
                  try clear q1
                  try clear hx1
                  try clear p2
                  try clear c3
                  try clear c3b0
                  try clear c5
                  try clear c5b0
                  try clear c6
                  try clear c6b0
                  try clear p6
                  try clear c7
                  try clear c7b0
                  try clear c8
                  try clear c8b0
                  try clear p9
                  try clear q9
                  try clear hx9
                  try clear c11
                  try clear c11b0
                  try clear c11b1
                  try clear c12
                  try clear c12b0
                  try clear p12
                  try clear q12
                  try clear hx12
                  try clear c13
                  try clear c13b0
                  try clear c14
                  try clear c14b0
                  try clear c14b1
                  try clear hx129_0
                  try clear p1
                  try clear p129
                  try clear p2
                  try clear p9
                  try clear q1
                  try clear q129
                  try clear q9
                  obtain ⟨kq, x31_9, rfl, HA, HJ9, HB⟩ := hcut
                  cases kq with
                  | zero => exact absurd HA.out (by simp [laws_quoted.j2])
                  | succ kj9 =>
                    have H := HA.out
                    clear HA
                    simp only [laws_quoted.j2] at H
                    by_cases c15 : x31_9 = true
                    · subst c15
                      have H1 : (if 0 ≤ x11_1 then (if x11_1 ≤ (wrap64 (x11_1 + 1)) then (if (wrap64 (x11_1 + 1)) ≤ (a0.size : Int) then (if x5_1.size + (a0.extract (x11_1 : Int).toNat ((wrap64 (x11_1 + 1)) : Int).toNat).size ≤ 9223372036854775807 then (laws_quoted.l0 kj9 a0 l1 (x5_1 ++ (a0.extract (x11_1 : Int).toNat ((wrap64 (x11_1 + 1)) : Int).toNat)) (a0.size : Int) (wrap64 (x11_1 + 1))) else (none)) else (none)) else (none)) else (none)) = some r := by rw [if_pos rfl] at H; exact H
                      clear H
                      have H := H1
                      clear H1
                      by_cases c16 : 0 ≤ x11_1
                      · rw [if_pos c16] at H
                        have c16b0 := eq_true c16
                        have c16b1 : decide (0 ≤ x11_1) = true := decide_eq_true c16
                        clear c16
                        by_cases c17 : x11_1 ≤ (wrap64 (x11_1 + 1))
                        · rw [if_pos c17] at H
                          have c17b0 := eq_true c17
                          have c17b1 : decide (x11_1 ≤ (wrap64 (x11_1 + 1))) = true := decide_eq_true c17
                          by_cases c18 : (wrap64 (x11_1 + 1)) ≤ (a0.size : Int)
                          · rw [if_pos c18] at H
                            have c18b0 := eq_true c18
                            have c18b1 : decide ((wrap64 (x11_1 + 1)) ≤ (a0.size : Int)) = true := decide_eq_true c18
                            by_cases c19 : x5_1.size + (a0.extract (x11_1 : Int).toNat ((wrap64 (x11_1 + 1)) : Int).toNat).size ≤ 9223372036854775807
                            · rw [if_pos c19] at H
                              have c19b0 := eq_true c19
                              have c19b1 : decide (x5_1.size + (a0.extract (x11_1 : Int).toNat ((wrap64 (x11_1 + 1)) : Int).toNat).size ≤ 9223372036854775807) = true := decide_eq_true c19
                              try have c19b2 : (9223372036854775807 < x5_1.size + (a0.extract (x11_1 : Int).toNat ((wrap64 (x11_1 + 1)) : Int).toNat).size) = False := eq_false (Nat.not_lt.2 c19)
                              have H' := Aside0.mk H
                              clear H
                              go_wp2
                              go_roundg kj9
                              case measure => have := HK1.out; have := HJ3.out; have := HJ9.out; omega
                              case rel => exact ⟨(x5_1 ++ (a0.extract (x11_1 : Int).toNat ((wrap64 (x11_1 + 1)) : Int).toNat)), (wrap64 (x11_1 + 1)), (by first | rfl | (simp; done) | (simp [*]; done)), (by first | rfl | (simp; done) | (simp [*]; done)), H', ⟨by have := HK1.out; have := HJ3.out; have := HJ9.out; omega⟩, ⟨by repeat (first | (with_reducible first | exact HB.out | apply below_alloc | apply pw_below_drewN | apply below_drew1) | exact HB.out)⟩⟩
                            · rw [if_neg c19] at H
                              exact absurd H (by simp)
                          · rw [if_neg c18] at H
                            exact absurd H (by simp)
                        · rw [if_neg c17] at H
                          exact absurd H (by simp)
                      · rw [if_neg c16] at H
                        exact absurd H (by simp)
                    · replace c15 := Bool.eq_false_iff.mpr c15
                      subst c15
                      have H1 : (if (Int.tmod x7_3 4) = 1 then ((some (([(wrap64 (48 + (wrap64 (Int.tdiv (wrap64 (bt a0 x11_1)) 64)))) % 256, (wrap64 (48 + (Int.tmod (wrap64 (Int.tdiv (wrap64 (bt a0 x11_1)) 8)) 8))) % 256, (wrap64 (48 + (Int.tmod (wrap64 (bt a0 x11_1)) 8))) % 256] : List Int) : List Int)).bind fun y130 => (if 1 + (strOfNums y130).size ≤ 9223372036854775807 then (if x5_1.size + ((⟨#[92]⟩ : ByteArray) ++ (strOfNums y130)).size ≤ 9223372036854775807 then (laws_quoted.l0 kj9 a0 l1 (x5_1 ++ ((⟨#[92]⟩ : ByteArray) ++ (strOfNums y130))) (a0.size : Int) (wrap64 (x11_1 + 1))) else (none)) else (none))) else (if (Int.tmod x7_3 4) = 2 then (laws_quoted.j3 kj9 a0 l1 x5_1 x7_3 (wrap64 (bt a0 x11_1)) (a0.size : Int) x11_1 (decide ((wrap64 (bt a0 x11_1)) < 128))) else (laws_quoted.j3 kj9 a0 l1 x5_1 x7_3 (wrap64 (bt a0 x11_1)) (a0.size : Int) x11_1 false))) = some r := by rw [if_neg (show ¬ (false = true) by decide)] at H; exact H
                      clear H
                      have H := H1
                      clear H1
                      by_cases c20 : (Int.tmod x7_3 4) = 1
                      · rw [if_pos c20] at H
                        have c20b0 : ((Int.tmod x7_3 4) == 1) = true := beq_iff_eq.mpr c20
                        have c20b1 : ((Int.tmod x7_3 4) != 1) = false := bne_eq_false_iff_eq.mpr c20
                        clear c20
                        obtain ⟨y130, hy130⟩ : ∃ y_ : List Int, y_ = (([(wrap64 (48 + (wrap64 (Int.tdiv (wrap64 (bt a0 x11_1)) 64)))) % 256, (wrap64 (48 + (Int.tmod (wrap64 (Int.tdiv (wrap64 (bt a0 x11_1)) 8)) 8))) % 256, (wrap64 (48 + (Int.tmod (wrap64 (bt a0 x11_1)) 8))) % 256] : List Int)) := ⟨_, rfl⟩
                        replace H : (if 1 + (strOfNums y130).size ≤ 9223372036854775807 then (if x5_1.size + ((⟨#[92]⟩ : ByteArray) ++ (strOfNums y130)).size ≤ 9223372036854775807 then (laws_quoted.l0 kj9 a0 l1 (x5_1 ++ ((⟨#[92]⟩ : ByteArray) ++ (strOfNums y130))) (a0.size : Int) (wrap64 (x11_1 + 1))) else (none)) else (none)) = some r := by first | (rw [hy130]; with_reducible exact H) | (have H2_ := (Option.bind_some _ _).symm.trans H; rw [hy130]; with_reducible exact H2_) | (have H2_ := (Option.bind_some _ _).symm.trans H; with_reducible exact H2_) | with_reducible exact H | (rw [hy130]; exact H) | exact H
                        have Ny130 := Aside0.mk hy130
                        clear hy130
                        by_cases c21 : 1 + (strOfNums y130).size ≤ 9223372036854775807
                        · rw [if_pos c21] at H
                          have c21b0 := eq_true c21
                          have c21b1 : decide (1 + (strOfNums y130).size ≤ 9223372036854775807) = true := decide_eq_true c21
                          try have c21b2 : (9223372036854775807 < 1 + (strOfNums y130).size) = False := eq_false (Nat.not_lt.2 c21)
                          by_cases c22 : x5_1.size + ((⟨#[92]⟩ : ByteArray) ++ (strOfNums y130)).size ≤ 9223372036854775807
                          · rw [if_pos c22] at H
                            have c22b0 := eq_true c22
                            have c22b1 : decide (x5_1.size + ((⟨#[92]⟩ : ByteArray) ++ (strOfNums y130)).size ≤ 9223372036854775807) = true := decide_eq_true c22
                            try have c22b2 : (9223372036854775807 < x5_1.size + ((⟨#[92]⟩ : ByteArray) ++ (strOfNums y130)).size) = False := eq_false (Nat.not_lt.2 c22)
                            have H' := Aside0.mk H
                            clear H
                            go_wp2_with (first | ((with_reducible refine gate_dst (N := 76) rfl ?_); refine Kd.R_lit (Kd.int .u8) _ 5 ?hg (N := 76) ?hd (xs := ([(wrap64 (48 + (wrap64 (Int.tdiv (wrap64 (bt a0 x11_1)) 64)))) % 256, (wrap64 (48 + (Int.tmod (wrap64 (Int.tdiv (wrap64 (bt a0 x11_1)) 8)) 8))) % 256, (wrap64 (48 + (Int.tmod (wrap64 (bt a0 x11_1)) 8))) % 256] : List Int)) (inner := [.int .u8 ((wrap64 (48 + (wrap64 (Int.tdiv (wrap64 (bt a0 x11_1)) 64)))) % 256), .int .u8 ((wrap64 (48 + (Int.tmod (wrap64 (Int.tdiv (wrap64 (bt a0 x11_1)) 8)) 8))) % 256), .int .u8 ((wrap64 (48 + (Int.tmod (wrap64 (bt a0 x11_1)) 8))) % 256)]) (ok := fun _ => True) (okp := fun _ => True) ?hr ?hp (fun _ hk => hk) trivial (Below.refl _ _) (Nat.le_refl _) (by simp) ?_; (case hd => rfl); (case hg => rfl); (case hr => first | (go_simp; done) | (go_simp; rfl)); (case hp => exact (Reps.one (show Kd.M (Kd.int .u8) _ _ _ ((wrap64 (48 + (wrap64 (Int.tdiv (wrap64 (bt a0 x11_1)) 64)))) % 256) [.int .u8 ((wrap64 (48 + (wrap64 (Int.tdiv (wrap64 (bt a0 x11_1)) 64)))) % 256)] from rfl) (Reps.one (show Kd.M (Kd.int .u8) _ _ _ ((wrap64 (48 + (Int.tmod (wrap64 (Int.tdiv (wrap64 (bt a0 x11_1)) 8)) 8))) % 256) [.int .u8 ((wrap64 (48 + (Int.tmod (wrap64 (Int.tdiv (wrap64 (bt a0 x11_1)) 8)) 8))) % 256)] from rfl) (Reps.one (show Kd.M (Kd.int .u8) _ _ _ ((wrap64 (48 + (Int.tmod (wrap64 (bt a0 x11_1)) 8))) % 256) [.int .u8 ((wrap64 (48 + (Int.tmod (wrap64 (bt a0 x11_1)) 8))) % 256)] from rfl) (Reps.none _ _))))); intro v131 w23 ho24 hb hg_ hnew_; clear hg_ hnew_; (first | rw [← Ny130.out] at ho24 | (simp only [Int.reduceToNat] at ho24; rw [← Ny130.out] at ho24)); have n0_ := Aside0.mk (Kd.R_lower ho24 (below_size (by repeat (first | (with_reducible first | exact HB.out | apply below_alloc | apply pw_below_drewN | apply below_drew1) | exact HB.out)))); have n1_ := Aside0.mk (below_step (by repeat (first | (with_reducible first | exact HB.out | apply below_alloc | apply pw_below_drewN | apply below_drew1) | exact HB.out)) hb); clear HB; have HO132 := n0_; have HB := n1_; clear n0_ n1_; clear hb ho24; have hcv25 := own_string (P := Tryz.prog) Tryz.underlying22 Tryz.underlying5 Tryz.underlying9 (Kd.own_of_R HO132.out)))
                            go_roundg kj9
                            case measure => have := HK1.out; have := HJ3.out; have := HJ9.out; omega
                            case rel => exact ⟨(x5_1 ++ ((⟨#[92]⟩ : ByteArray) ++ (strOfNums y130))), (wrap64 (x11_1 + 1)), (by first | rfl | (simp; done) | (simp [*]; done)), (by first | rfl | (simp; done) | (simp [*]; done)), H', ⟨by have := HK1.out; have := HJ3.out; have := HJ9.out; omega⟩, ⟨by repeat (first | (with_reducible first | exact HB.out | apply below_alloc | apply pw_below_drewN | apply below_drew1) | exact HB.out)⟩⟩
                          · rw [if_neg c22] at H
                            exact absurd H (by simp)
                        · rw [if_neg c21] at H
                          exact absurd H (by simp)
                      · rw [if_neg c20] at H
                        have c20b0 : ((Int.tmod x7_3 4) == 1) = false := beq_eq_false_iff_ne.mpr c20
                        have c20b1 : ((Int.tmod x7_3 4) != 1) = true := bne_iff_ne.mpr c20
                        have HC26 := Aside0.mk H
                        clear H
                        go_upto_region 14 with (fail)
                        go_cut [80] (fun v80 wc => ∃ (kq : Nat) (x80_25 : Bool), v80 = .bool x80_25 ∧ Aside0 (laws_quoted.j3 kq a0 l1 x5_1 x7_3 (wrap64 (bt a0 x11_1)) (a0.size : Int) x11_1 x80_25 = some r) ∧ Aside0 (kq ≤ kj9) ∧ Aside0 (Below w.heap.size w wc))
                        case first =>
                          have H := HC26.out
                          clear HC26
                          by_cases c27 : (Int.tmod x7_3 4) = 2
                          · rw [if_pos c27] at H
                            have c27b0 : ((Int.tmod x7_3 4) == 2) = true := beq_iff_eq.mpr c27
                            have c27b1 : ((Int.tmod x7_3 4) != 2) = false := bne_eq_false_iff_eq.mpr c27
                            clear c27
                            (first | rw [c27b0] | (simp only [i64_w, i32_w]; rw [c27b0]) | skip)
                            have H' := Aside0.mk H
                            clear H
                            go_wp2
                            go_meet
                            case rel => exact ⟨_, (decide ((wrap64 (bt a0 x11_1)) < 128)), (by first | rfl | (simp; done) | (simp [*]; done)), H', ⟨by have := HK1.out; have := HJ3.out; have := HJ9.out; first | omega | exact Nat.le_refl _⟩, ⟨by repeat (first | (with_reducible first | exact HB.out | apply below_alloc | apply pw_below_drewN | apply below_drew1) | exact HB.out)⟩⟩
                          · rw [if_neg c27] at H
                            have c27b0 : ((Int.tmod x7_3 4) == 2) = false := beq_eq_false_iff_ne.mpr c27
                            have c27b1 : ((Int.tmod x7_3 4) != 2) = true := bne_iff_ne.mpr c27
                            (first | rw [c27b0] | (simp only [i64_w, i32_w]; rw [c27b0]) | skip)
                            have H' := Aside0.mk H
                            clear H
                            go_wp2
                            go_meet
                            case rel => exact ⟨_, (false), (by first | rfl | (simp; done) | (simp [*]; done)), H', ⟨by have := HK1.out; have := HJ3.out; have := HJ9.out; first | omega | exact Nat.le_refl _⟩, ⟨by repeat (first | (with_reducible first | exact HB.out | apply below_alloc | apply pw_below_drewN | apply below_drew1) | exact HB.out)⟩⟩
                        case rest =>
                          clear HC26
                          try clear c1
                          try clear p1
                          try clear q1
                          try clear hx1
                          try clear c2
                          try clear p2
                          try clear hcv2
                          try clear c3
                          try clear c3b0
                          try clear c5
                          try clear c5b0
                          try clear c6
                          try clear c6b0
                          try clear p6
                          try clear c7
                          try clear c7b0
                          try clear c8
                          try clear c8b0
                          try clear p9
                          try clear q9
                          try clear hx9
                          try clear c11
                          try clear c11b0
                          try clear c11b1
                          try clear c12
                          try clear c12b0
                          try clear p12
                          try clear q12
                          try clear hx12
                          try clear c13
                          try clear c13b0
                          try clear c14
                          try clear c14b0
                          try clear c14b1
                          try clear c15
                          try clear c16
                          try clear c16b0
                          try clear c16b1
                          try clear c17
                          try clear c17b0
                          try clear c17b1
                          try clear c18
                          try clear c18b0
                          try clear c18b1
                          try clear c19
                          try clear c19b0
                          try clear c19b1
                          try clear c19b2
                          try clear c20
                          try clear c20b0
                          try clear c20b1
                          try clear c21
                          try clear c21b0
                          try clear c21b1
                          try clear c21b2
                          try clear c22
                          try clear c22b0
                          try clear c22b1
                          try clear c22b2
                          try clear hcv25
                          try clear c27
                          try clear c27b0
                          try clear c27b1
                          try clear hx129_0
                          try clear p1
                          try clear p12
                          try clear p129
                          try clear p2
                          try clear p6
                          try clear p9
                          try clear q1
                          try clear q12
                          try clear q129
                          try clear q9
                          obtain ⟨kq, x80_25, rfl, HA, HJ25, HB⟩ := hcut
                          cases kq with
                          | zero => exact absurd HA.out (by simp [laws_quoted.j3])
                          | succ kj25 =>
                            have H := HA.out
                            clear HA
                            simp only [laws_quoted.j3] at H
                            by_cases c28 : x80_25 = true
                            · subst c28
                              have H1 : ((spec_Hex.f kj25 (wrap64 (bt a0 x11_1)) 4).bind fun t133 => (if 2 + t133.size ≤ 9223372036854775807 then (if x5_1.size + ((⟨#[92, 117]⟩ : ByteArray) ++ t133).size ≤ 9223372036854775807 then (laws_quoted.l0 kj25 a0 l1 (x5_1 ++ ((⟨#[92, 117]⟩ : ByteArray) ++ t133)) (a0.size : Int) (wrap64 (x11_1 + 1))) else (none)) else (none))) = some r := by rw [if_pos rfl] at H; exact H
                              clear H
                              have H := H1
                              clear H1
                              replace H := Option.bind_eq_some_iff.mp H
                              obtain ⟨t133, A290, H⟩ := H
                              replace H : (if 2 + t133.size ≤ 9223372036854775807 then (if x5_1.size + ((⟨#[92, 117]⟩ : ByteArray) ++ t133).size ≤ 9223372036854775807 then (laws_quoted.l0 kj25 a0 l1 (x5_1 ++ ((⟨#[92, 117]⟩ : ByteArray) ++ t133)) (a0.size : Int) (wrap64 (x11_1 + 1))) else (none)) else (none)) = some r := H
                              have A29 := Aside0.mk A290
                              clear A290
                              by_cases c30 : 2 + t133.size ≤ 9223372036854775807
                              · rw [if_pos c30] at H
                                have c30b0 := eq_true c30
                                have c30b1 : decide (2 + t133.size ≤ 9223372036854775807) = true := decide_eq_true c30
                                try have c30b2 : (9223372036854775807 < 2 + t133.size) = False := eq_false (Nat.not_lt.2 c30)
                                by_cases c31 : x5_1.size + ((⟨#[92, 117]⟩ : ByteArray) ++ t133).size ≤ 9223372036854775807
                                · rw [if_pos c31] at H
                                  have c31b0 := eq_true c31
                                  have c31b1 : decide (x5_1.size + ((⟨#[92, 117]⟩ : ByteArray) ++ t133).size ≤ 9223372036854775807) = true := decide_eq_true c31
                                  try have c31b2 : (9223372036854775807 < x5_1.size + ((⟨#[92, 117]⟩ : ByteArray) ++ t133).size) = False := eq_false (Nat.not_lt.2 c31)
                                  have H' := Aside0.mk H
                                  clear H
                                  go_wp2_with (first | ((with_reducible refine gate_callee (f := 10) rfl ?_); refine goesL_ (some 90) rfl rfl Tryz.func10 (by kernel_rfl) rfl #[.int .i64 (wrap64 (bt a0 x11_1)), .int .i64 4] rfl (by (try simp only [List.map_toArray, List.map_cons, List.map_nil]); first | done | rfl | (simp only [List.length_drop, List.length_take]; rfl)) ?_; (with_reducible refine (spec_Hex.calls kj25 (wrap64 (bt a0 x11_1)) 4 t133 _ A29.out).mono ?_); rintro e w32 ⟨rfl, hb⟩; refine ⟨_, rfl, ?_⟩; have n0_ := Aside0.mk (below_step (by repeat (first | (with_reducible first | exact HB.out | apply below_alloc | apply pw_below_drewN | apply below_drew1) | exact HB.out)) hb); clear HB; have HB := n0_; clear n0_; (try clear hb); (try clear hb2); (try clear hk); (try clear hi)))
                                  go_roundg kj25
                                  case measure => have := HK1.out; have := HJ3.out; have := HJ9.out; have := HJ25.out; omega
                                  case rel => exact ⟨(x5_1 ++ ((⟨#[92, 117]⟩ : ByteArray) ++ t133)), (wrap64 (x11_1 + 1)), (by first | rfl | (simp; done) | (simp [*]; done)), (by first | rfl | (simp; done) | (simp [*]; done)), H', ⟨by have := HK1.out; have := HJ3.out; have := HJ9.out; have := HJ25.out; omega⟩, ⟨by repeat (first | (with_reducible first | exact HB.out | apply below_alloc | apply pw_below_drewN | apply below_drew1) | exact HB.out)⟩⟩
                                · rw [if_neg c31] at H
                                  exact absurd H (by simp)
                              · rw [if_neg c30] at H
                                exact absurd H (by simp)
                            · replace c28 := Bool.eq_false_iff.mpr c28
                              subst c28
                              have H1 : (if (Int.tmod x7_3 4) = 3 then (laws_quoted.j4 kj25 a0 l1 x5_1 (wrap64 (bt a0 x11_1)) (a0.size : Int) x11_1 (decide ((wrap64 (bt a0 x11_1)) < 128))) else (laws_quoted.j4 kj25 a0 l1 x5_1 (wrap64 (bt a0 x11_1)) (a0.size : Int) x11_1 false)) = some r := by rw [if_neg (show ¬ (false = true) by decide)] at H; exact H
                              clear H
                              have H := H1
                              clear H1
                              have HC33 := Aside0.mk H
                              clear H
                              go_upto_region 16 with (fail)
                              go_cut [93] (fun v93 wc => ∃ (kq : Nat) (x93_32 : Bool), v93 = .bool x93_32 ∧ Aside0 (laws_quoted.j4 kq a0 l1 x5_1 (wrap64 (bt a0 x11_1)) (a0.size : Int) x11_1 x93_32 = some r) ∧ Aside0 (kq ≤ kj25) ∧ Aside0 (Below w.heap.size w wc))
                              case first =>
                                have H := HC33.out
                                clear HC33
                                by_cases c34 : (Int.tmod x7_3 4) = 3
                                · rw [if_pos c34] at H
                                  have c34b0 : ((Int.tmod x7_3 4) == 3) = true := beq_iff_eq.mpr c34
                                  have c34b1 : ((Int.tmod x7_3 4) != 3) = false := bne_eq_false_iff_eq.mpr c34
                                  clear c34
                                  (first | rw [c34b0] | (simp only [i64_w, i32_w]; rw [c34b0]) | skip)
                                  have H' := Aside0.mk H
                                  clear H
                                  go_wp2
                                  go_meet
                                  case rel => exact ⟨_, (decide ((wrap64 (bt a0 x11_1)) < 128)), (by first | rfl | (simp; done) | (simp [*]; done)), H', ⟨by have := HK1.out; have := HJ3.out; have := HJ9.out; have := HJ25.out; first | omega | exact Nat.le_refl _⟩, ⟨by repeat (first | (with_reducible first | exact HB.out | apply below_alloc | apply pw_below_drewN | apply below_drew1) | exact HB.out)⟩⟩
                                · rw [if_neg c34] at H
                                  have c34b0 : ((Int.tmod x7_3 4) == 3) = false := beq_eq_false_iff_ne.mpr c34
                                  have c34b1 : ((Int.tmod x7_3 4) != 3) = true := bne_iff_ne.mpr c34
                                  (first | rw [c34b0] | (simp only [i64_w, i32_w]; rw [c34b0]) | skip)
                                  have H' := Aside0.mk H
                                  clear H
                                  go_wp2
                                  go_meet
                                  case rel => exact ⟨_, (false), (by first | rfl | (simp; done) | (simp [*]; done)), H', ⟨by have := HK1.out; have := HJ3.out; have := HJ9.out; have := HJ25.out; first | omega | exact Nat.le_refl _⟩, ⟨by repeat (first | (with_reducible first | exact HB.out | apply below_alloc | apply pw_below_drewN | apply below_drew1) | exact HB.out)⟩⟩
                              case rest =>
                                clear HC33
                                try clear c1
                                try clear p1
                                try clear q1
                                try clear hx1
                                try clear c2
                                try clear p2
                                try clear hcv2
                                try clear c3
                                try clear c3b0
                                try clear c5
                                try clear c5b0
                                try clear c6
                                try clear c6b0
                                try clear p6
                                try clear c7
                                try clear c7b0
                                try clear c8
                                try clear c8b0
                                try clear p9
                                try clear q9
                                try clear hx9
                                try clear c10
                                try clear c11
                                try clear c11b0
                                try clear c11b1
                                try clear c12
                                try clear c12b0
                                try clear p12
                                try clear q12
                                try clear hx12
                                try clear c13
                                try clear c13b0
                                try clear c14
                                try clear c14b0
                                try clear c14b1
                                try clear c15
                                try clear c16
                                try clear c16b0
                                try clear c16b1
                                try clear c17
                                try clear c17b0
                                try clear c17b1
                                try clear c18
                                try clear c18b0
                                try clear c18b1
                                try clear c19
                                try clear c19b0
                                try clear c19b1
                                try clear c19b2
                                try clear c20
                                try clear c20b0
                                try clear c20b1
                                try clear c21
                                try clear c21b0
                                try clear c21b1
                                try clear c21b2
                                try clear c22
                                try clear c22b0
                                try clear c22b1
                                try clear c22b2
                                try clear hcv25
                                try clear c27
                                try clear c27b0
                                try clear c27b1
                                try clear c28
                                try clear c30
                                try clear c30b0
                                try clear c30b1
                                try clear c30b2
                                try clear c31
                                try clear c31b0
                                try clear c31b1
                                try clear c31b2
                                try clear c34
                                try clear c34b0
                                try clear c34b1
                                try clear hx129_0
                                try clear p1
                                try clear p12
                                try clear p129
                                try clear p2
                                try clear p6
                                try clear p9
                                try clear q1
                                try clear q12
                                try clear q129
                                try clear q9
                                obtain ⟨kq, x93_32, rfl, HA, HJ32, HB⟩ := hcut
                                cases kq with
                                | zero => exact absurd HA.out (by simp [laws_quoted.j4])
                                | succ kj32 =>
                                  have H := HA.out
                                  clear HA
                                  simp only [laws_quoted.j4] at H
                                  by_cases c35 : x93_32 = true
                                  · subst c35
                                    have H1 : ((spec_Hex.f kj32 (wrap64 (bt a0 x11_1)) 8).bind fun t134 => (if 2 + t134.size ≤ 9223372036854775807 then (if x5_1.size + ((⟨#[92, 85]⟩ : ByteArray) ++ t134).size ≤ 9223372036854775807 then (laws_quoted.l0 kj32 a0 l1 (x5_1 ++ ((⟨#[92, 85]⟩ : ByteArray) ++ t134)) (a0.size : Int) (wrap64 (x11_1 + 1))) else (none)) else (none))) = some r := by rw [if_pos rfl] at H; exact H
                                    clear H
                                    have H := H1
                                    clear H1
                                    replace H := Option.bind_eq_some_iff.mp H
                                    obtain ⟨t134, A360, H⟩ := H
                                    replace H : (if 2 + t134.size ≤ 9223372036854775807 then (if x5_1.size + ((⟨#[92, 85]⟩ : ByteArray) ++ t134).size ≤ 9223372036854775807 then (laws_quoted.l0 kj32 a0 l1 (x5_1 ++ ((⟨#[92, 85]⟩ : ByteArray) ++ t134)) (a0.size : Int) (wrap64 (x11_1 + 1))) else (none)) else (none)) = some r := H
                                    have A36 := Aside0.mk A360
                                    clear A360
                                    by_cases c37 : 2 + t134.size ≤ 9223372036854775807
                                    · rw [if_pos c37] at H
                                      have c37b0 := eq_true c37
                                      have c37b1 : decide (2 + t134.size ≤ 9223372036854775807) = true := decide_eq_true c37
                                      try have c37b2 : (9223372036854775807 < 2 + t134.size) = False := eq_false (Nat.not_lt.2 c37)
                                      by_cases c38 : x5_1.size + ((⟨#[92, 85]⟩ : ByteArray) ++ t134).size ≤ 9223372036854775807
                                      · rw [if_pos c38] at H
                                        have c38b0 := eq_true c38
                                        have c38b1 : decide (x5_1.size + ((⟨#[92, 85]⟩ : ByteArray) ++ t134).size ≤ 9223372036854775807) = true := decide_eq_true c38
                                        try have c38b2 : (9223372036854775807 < x5_1.size + ((⟨#[92, 85]⟩ : ByteArray) ++ t134).size) = False := eq_false (Nat.not_lt.2 c38)
                                        have H' := Aside0.mk H
                                        clear H
                                        go_wp2_with (first | ((with_reducible refine gate_callee (f := 10) rfl ?_); refine goesL_ (some 103) rfl rfl Tryz.func10 (by kernel_rfl) rfl #[.int .i64 (wrap64 (bt a0 x11_1)), .int .i64 8] rfl (by (try simp only [List.map_toArray, List.map_cons, List.map_nil]); first | done | rfl | (simp only [List.length_drop, List.length_take]; rfl)) ?_; (with_reducible refine (spec_Hex.calls kj32 (wrap64 (bt a0 x11_1)) 8 t134 _ A36.out).mono ?_); rintro e w39 ⟨rfl, hb⟩; refine ⟨_, rfl, ?_⟩; have n0_ := Aside0.mk (below_step (by repeat (first | (with_reducible first | exact HB.out | apply below_alloc | apply pw_below_drewN | apply below_drew1) | exact HB.out)) hb); clear HB; have HB := n0_; clear n0_; (try clear hb); (try clear hb2); (try clear hk); (try clear hi)))
                                        go_roundg kj32
                                        case measure => have := HK1.out; have := HJ3.out; have := HJ9.out; have := HJ25.out; have := HJ32.out; omega
                                        case rel => exact ⟨(x5_1 ++ ((⟨#[92, 85]⟩ : ByteArray) ++ t134)), (wrap64 (x11_1 + 1)), (by first | rfl | (simp; done) | (simp [*]; done)), (by first | rfl | (simp; done) | (simp [*]; done)), H', ⟨by have := HK1.out; have := HJ3.out; have := HJ9.out; have := HJ25.out; have := HJ32.out; omega⟩, ⟨by repeat (first | (with_reducible first | exact HB.out | apply below_alloc | apply pw_below_drewN | apply below_drew1) | exact HB.out)⟩⟩
                                      · rw [if_neg c38] at H
                                        exact absurd H (by simp)
                                    · rw [if_neg c37] at H
                                      exact absurd H (by simp)
                                  · replace c35 := Bool.eq_false_iff.mpr c35
                                    subst c35
                                    have H1 : ((spec_Hex.f kj32 (wrap64 (bt a0 x11_1)) 2).bind fun t135 => (if 2 + t135.size ≤ 9223372036854775807 then (if x5_1.size + ((⟨#[92, 120]⟩ : ByteArray) ++ t135).size ≤ 9223372036854775807 then (laws_quoted.l0 kj32 a0 l1 (x5_1 ++ ((⟨#[92, 120]⟩ : ByteArray) ++ t135)) (a0.size : Int) (wrap64 (x11_1 + 1))) else (none)) else (none))) = some r := by rw [if_neg (show ¬ (false = true) by decide)] at H; exact H
                                    clear H
                                    have H := H1
                                    clear H1
                                    replace H := Option.bind_eq_some_iff.mp H
                                    obtain ⟨t135, A400, H⟩ := H
                                    replace H : (if 2 + t135.size ≤ 9223372036854775807 then (if x5_1.size + ((⟨#[92, 120]⟩ : ByteArray) ++ t135).size ≤ 9223372036854775807 then (laws_quoted.l0 kj32 a0 l1 (x5_1 ++ ((⟨#[92, 120]⟩ : ByteArray) ++ t135)) (a0.size : Int) (wrap64 (x11_1 + 1))) else (none)) else (none)) = some r := H
                                    have A40 := Aside0.mk A400
                                    clear A400
                                    by_cases c41 : 2 + t135.size ≤ 9223372036854775807
                                    · rw [if_pos c41] at H
                                      have c41b0 := eq_true c41
                                      have c41b1 : decide (2 + t135.size ≤ 9223372036854775807) = true := decide_eq_true c41
                                      try have c41b2 : (9223372036854775807 < 2 + t135.size) = False := eq_false (Nat.not_lt.2 c41)
                                      by_cases c42 : x5_1.size + ((⟨#[92, 120]⟩ : ByteArray) ++ t135).size ≤ 9223372036854775807
                                      · rw [if_pos c42] at H
                                        have c42b0 := eq_true c42
                                        have c42b1 : decide (x5_1.size + ((⟨#[92, 120]⟩ : ByteArray) ++ t135).size ≤ 9223372036854775807) = true := decide_eq_true c42
                                        try have c42b2 : (9223372036854775807 < x5_1.size + ((⟨#[92, 120]⟩ : ByteArray) ++ t135).size) = False := eq_false (Nat.not_lt.2 c42)
                                        have H' := Aside0.mk H
                                        clear H
                                        go_wp2_with (first | ((with_reducible refine gate_callee (f := 10) rfl ?_); refine goesL_ (some 28) rfl rfl Tryz.func10 (by kernel_rfl) rfl #[.int .i64 (wrap64 (bt a0 x11_1)), .int .i64 2] rfl (by (try simp only [List.map_toArray, List.map_cons, List.map_nil]); first | done | rfl | (simp only [List.length_drop, List.length_take]; rfl)) ?_; (with_reducible refine (spec_Hex.calls kj32 (wrap64 (bt a0 x11_1)) 2 t135 _ A40.out).mono ?_); rintro e w43 ⟨rfl, hb⟩; refine ⟨_, rfl, ?_⟩; have n0_ := Aside0.mk (below_step (by repeat (first | (with_reducible first | exact HB.out | apply below_alloc | apply pw_below_drewN | apply below_drew1) | exact HB.out)) hb); clear HB; have HB := n0_; clear n0_; (try clear hb); (try clear hb2); (try clear hk); (try clear hi)))
                                        go_roundg kj32
                                        case measure => have := HK1.out; have := HJ3.out; have := HJ9.out; have := HJ25.out; have := HJ32.out; omega
                                        case rel => exact ⟨(x5_1 ++ ((⟨#[92, 120]⟩ : ByteArray) ++ t135)), (wrap64 (x11_1 + 1)), (by first | rfl | (simp; done) | (simp [*]; done)), (by first | rfl | (simp; done) | (simp [*]; done)), H', ⟨by have := HK1.out; have := HJ3.out; have := HJ9.out; have := HJ25.out; have := HJ32.out; omega⟩, ⟨by repeat (first | (with_reducible first | exact HB.out | apply below_alloc | apply pw_below_drewN | apply below_drew1) | exact HB.out)⟩⟩
                                      · rw [if_neg c42] at H
                                        exact absurd H (by simp)
                                    · rw [if_neg c41] at H
                                      exact absurd H (by simp)
              · rw [if_neg c8] at H
                exact absurd H (by simp)
            · rw [if_neg c7] at H
              exact absurd H (by simp)
      · rw [if_neg c3] at H
        have c3b0 : decide (x11_1 < (a0.size : Int)) = false := decide_eq_false c3
        clear c3
        by_cases c44 : x5_1.size + 1 ≤ 9223372036854775807
        · rw [if_pos c44] at H
          have c44b0 := eq_true c44
          have c44b1 : decide (x5_1.size + 1 ≤ 9223372036854775807) = true := decide_eq_true c44
          try have c44b2 : (9223372036854775807 < x5_1.size + 1) = False := eq_false (Nat.not_lt.2 c44)
          obtain rfl := Option.some.inj H
          go_wp2
          go_ret
          exact ⟨by first | rfl | (simp [errW_none, errW_some] <;> rfl) | (simp [*, errW_none, errW_some] <;> rfl), by repeat (first | (with_reducible first | exact HB.out | apply below_alloc | apply pw_below_drewN | apply below_drew1) | exact HB.out)⟩
        · rw [if_neg c44] at H
          exact absurd H (by simp)

/-! ### impl_operator: function 11 -/
def impl_operator.f (a0 : Int) : Option (Int × Bool) := (some (([12, 13, 14, 15, 26, 16, 17, 18, 19, 22, 34, 35] : List Int) : List Int)).bind fun y136 => (if a0 < 0 then (some (0, false)) else (if a0 ≥ (y136.length : Int) then (some (0, false)) else (if 0 ≤ a0 then (if a0 < (y136.length : Int) then (some (rd y136 a0, true)) else (none)) else (none))))
set_option maxHeartbeats 8000000 in
set_option maxRecDepth 100000 in
theorem impl_operator.calls (a0 : Int) (r1 : Int) (r2 : Bool) (w : World) (h : impl_operator.f a0 = some (r1, r2)) :
    Calls Tryz.prog 11 #[.int .i64 a0] w fun e w' => e = .returned (.tuple #[.int .i64 r1, .bool r2]) ∧ Below w.heap.size w w' := by
  have HB := Aside0.mk (Below.refl w.heap.size w)
  have H : ((some (([12, 13, 14, 15, 26, 16, 17, 18, 19, 22, 34, 35] : List Int) : List Int)).bind fun y136 => (if a0 < 0 then (some (0, false)) else (if a0 ≥ (y136.length : Int) then (some (0, false)) else (if 0 ≤ a0 then (if a0 < (y136.length : Int) then (some (rd y136 a0, true)) else (none)) else (none))))) = some (r1, r2) := h
  clear h
  obtain ⟨y136, hy136⟩ : ∃ y_ : List Int, y_ = (([12, 13, 14, 15, 26, 16, 17, 18, 19, 22, 34, 35] : List Int)) := ⟨_, rfl⟩
  replace H : (if a0 < 0 then (some (0, false)) else (if a0 ≥ (y136.length : Int) then (some (0, false)) else (if 0 ≤ a0 then (if a0 < (y136.length : Int) then (some (rd y136 a0, true)) else (none)) else (none)))) = some (r1, r2) := by first | (rw [hy136]; with_reducible exact H) | (have H2_ := (Option.bind_some _ _).symm.trans H; rw [hy136]; with_reducible exact H2_) | (have H2_ := (Option.bind_some _ _).symm.trans H; with_reducible exact H2_) | with_reducible exact H | (rw [hy136]; exact H) | exact H
  have Ny136 := Aside0.mk hy136
  clear hy136
  by_cases c2 : a0 < 0
  · rw [if_pos c2] at H
    have c2b0 : decide (a0 < 0) = true := decide_eq_true c2
    clear c2
    simp only [Option.some.injEq, Prod.mk.injEq] at H
    obtain ⟨rfl, rfl⟩ := H
    go_enter Tryz.func11, Tryz.ntmps11
    go_wp2_with (first | ((with_reducible refine gate_dst (N := 5) rfl ?_); (try (refine gate_guard (by rfl) ?_; dsimp only)); refine Kd.R_lit (Kd.int .i64) _ 33 ?hg (N := 5) ?hd (xs := ([12, 13, 14, 15, 26, 16, 17, 18, 19, 22, 34, 35] : List Int)) (inner := [.int .i64 12, .int .i64 13, .int .i64 14, .int .i64 15, .int .i64 26, .int .i64 16, .int .i64 17, .int .i64 18, .int .i64 19, .int .i64 22, .int .i64 34, .int .i64 35]) (ok := fun _ => True) (okp := fun _ => True) ?hr ?hp (fun _ hk => hk) trivial (Below.refl _ _) (Nat.le_refl _) (by simp) ?_; (case hd => rfl); (case hg => rfl); (case hr => first | (go_simp; done) | (go_simp; rfl)); (case hp => exact (Reps.one (show Kd.M (Kd.int .i64) _ _ _ 12 [.int .i64 12] from rfl) (Reps.one (show Kd.M (Kd.int .i64) _ _ _ 13 [.int .i64 13] from rfl) (Reps.one (show Kd.M (Kd.int .i64) _ _ _ 14 [.int .i64 14] from rfl) (Reps.one (show Kd.M (Kd.int .i64) _ _ _ 15 [.int .i64 15] from rfl) (Reps.one (show Kd.M (Kd.int .i64) _ _ _ 26 [.int .i64 26] from rfl) (Reps.one (show Kd.M (Kd.int .i64) _ _ _ 16 [.int .i64 16] from rfl) (Reps.one (show Kd.M (Kd.int .i64) _ _ _ 17 [.int .i64 17] from rfl) (Reps.one (show Kd.M (Kd.int .i64) _ _ _ 18 [.int .i64 18] from rfl) (Reps.one (show Kd.M (Kd.int .i64) _ _ _ 19 [.int .i64 19] from rfl) (Reps.one (show Kd.M (Kd.int .i64) _ _ _ 22 [.int .i64 22] from rfl) (Reps.one (show Kd.M (Kd.int .i64) _ _ _ 34 [.int .i64 34] from rfl) (Reps.one (show Kd.M (Kd.int .i64) _ _ _ 35 [.int .i64 35] from rfl) (Reps.none _ _)))))))))))))); intro v137 w3 ho4 hb hg_ hnew_; clear hg_ hnew_; (first | rw [← Ny136.out] at ho4 | (simp only [Int.reduceToNat] at ho4; rw [← Ny136.out] at ho4)); have n0_ := Aside0.mk (Kd.R_lower ho4 (below_size (by repeat (first | (with_reducible first | exact HB.out | apply below_alloc | apply pw_below_drewN | apply below_drew1) | exact HB.out)))); have n1_ := Aside0.mk (below_step (by repeat (first | (with_reducible first | exact HB.out | apply below_alloc | apply pw_below_drewN | apply below_drew1) | exact HB.out)) hb); clear HB; have HO138 := n0_; have HB := n1_; clear n0_ n1_; clear hb ho4))
    go_ret2
    exact ⟨by first | rfl | (simp [errW_none, errW_some] <;> rfl) | (simp [*, errW_none, errW_some] <;> rfl), by repeat (first | (with_reducible first | exact HB.out | apply below_alloc | apply pw_below_drewN | apply below_drew1) | exact HB.out)⟩
  · rw [if_neg c2] at H
    have c2b0 : decide (a0 < 0) = false := decide_eq_false c2
    clear c2
    by_cases c5 : a0 ≥ (y136.length : Int)
    · rw [if_pos c5] at H
      have c5b0 : decide ((y136.length : Int) ≤ a0) = true := decide_eq_true c5
      clear c5
      simp only [Option.some.injEq, Prod.mk.injEq] at H
      obtain ⟨rfl, rfl⟩ := H
      go_enter Tryz.func11, Tryz.ntmps11
      go_wp2_with (first | ((with_reducible refine gate_dst (N := 5) rfl ?_); (try (refine gate_guard (by rfl) ?_; dsimp only)); refine Kd.R_lit (Kd.int .i64) _ 33 ?hg (N := 5) ?hd (xs := ([12, 13, 14, 15, 26, 16, 17, 18, 19, 22, 34, 35] : List Int)) (inner := [.int .i64 12, .int .i64 13, .int .i64 14, .int .i64 15, .int .i64 26, .int .i64 16, .int .i64 17, .int .i64 18, .int .i64 19, .int .i64 22, .int .i64 34, .int .i64 35]) (ok := fun _ => True) (okp := fun _ => True) ?hr ?hp (fun _ hk => hk) trivial (Below.refl _ _) (Nat.le_refl _) (by simp) ?_; (case hd => rfl); (case hg => rfl); (case hr => first | (go_simp; done) | (go_simp; rfl)); (case hp => exact (Reps.one (show Kd.M (Kd.int .i64) _ _ _ 12 [.int .i64 12] from rfl) (Reps.one (show Kd.M (Kd.int .i64) _ _ _ 13 [.int .i64 13] from rfl) (Reps.one (show Kd.M (Kd.int .i64) _ _ _ 14 [.int .i64 14] from rfl) (Reps.one (show Kd.M (Kd.int .i64) _ _ _ 15 [.int .i64 15] from rfl) (Reps.one (show Kd.M (Kd.int .i64) _ _ _ 26 [.int .i64 26] from rfl) (Reps.one (show Kd.M (Kd.int .i64) _ _ _ 16 [.int .i64 16] from rfl) (Reps.one (show Kd.M (Kd.int .i64) _ _ _ 17 [.int .i64 17] from rfl) (Reps.one (show Kd.M (Kd.int .i64) _ _ _ 18 [.int .i64 18] from rfl) (Reps.one (show Kd.M (Kd.int .i64) _ _ _ 19 [.int .i64 19] from rfl) (Reps.one (show Kd.M (Kd.int .i64) _ _ _ 22 [.int .i64 22] from rfl) (Reps.one (show Kd.M (Kd.int .i64) _ _ _ 34 [.int .i64 34] from rfl) (Reps.one (show Kd.M (Kd.int .i64) _ _ _ 35 [.int .i64 35] from rfl) (Reps.none _ _)))))))))))))); intro v137 w6 ho7 hb hg_ hnew_; clear hg_ hnew_; (first | rw [← Ny136.out] at ho7 | (simp only [Int.reduceToNat] at ho7; rw [← Ny136.out] at ho7)); have n0_ := Aside0.mk (Kd.R_lower ho7 (below_size (by repeat (first | (with_reducible first | exact HB.out | apply below_alloc | apply pw_below_drewN | apply below_drew1) | exact HB.out)))); have n1_ := Aside0.mk (below_step (by repeat (first | (with_reducible first | exact HB.out | apply below_alloc | apply pw_below_drewN | apply below_drew1) | exact HB.out)) hb); clear HB; have HO138 := n0_; have HB := n1_; clear n0_ n1_; clear hb ho7; obtain ⟨Ao8, co8, eo8⟩ := Kd.R_slice HO138.out; subst eo8))
      go_ret2
      exact ⟨by first | rfl | (simp [errW_none, errW_some] <;> rfl) | (simp [*, errW_none, errW_some] <;> rfl), by repeat (first | (with_reducible first | exact HB.out | apply below_alloc | apply pw_below_drewN | apply below_drew1) | exact HB.out)⟩
    · rw [if_neg c5] at H
      have c5b0 : decide ((y136.length : Int) ≤ a0) = false := decide_eq_false c5
      clear c5
      by_cases c9 : 0 ≤ a0
      · rw [if_pos c9] at H
        have c9b0 : decide (0 ≤ a0) = true := decide_eq_true c9
        clear c9
        by_cases c10 : a0 < (y136.length : Int)
        · rw [if_pos c10] at H
          have c10b0 : decide (a0 < (y136.length : Int)) = true := decide_eq_true c10
          clear c10
          simp only [Option.some.injEq, Prod.mk.injEq] at H
          obtain ⟨rfl, rfl⟩ := H
          go_enter Tryz.func11, Tryz.ntmps11
          go_wp2_with (first | ((with_reducible refine gate_dst (N := 5) rfl ?_); (try (refine gate_guard (by rfl) ?_; dsimp only)); refine Kd.R_lit (Kd.int .i64) _ 33 ?hg (N := 5) ?hd (xs := ([12, 13, 14, 15, 26, 16, 17, 18, 19, 22, 34, 35] : List Int)) (inner := [.int .i64 12, .int .i64 13, .int .i64 14, .int .i64 15, .int .i64 26, .int .i64 16, .int .i64 17, .int .i64 18, .int .i64 19, .int .i64 22, .int .i64 34, .int .i64 35]) (ok := fun _ => True) (okp := fun _ => True) ?hr ?hp (fun _ hk => hk) trivial (Below.refl _ _) (Nat.le_refl _) (by simp) ?_; (case hd => rfl); (case hg => rfl); (case hr => first | (go_simp; done) | (go_simp; rfl)); (case hp => exact (Reps.one (show Kd.M (Kd.int .i64) _ _ _ 12 [.int .i64 12] from rfl) (Reps.one (show Kd.M (Kd.int .i64) _ _ _ 13 [.int .i64 13] from rfl) (Reps.one (show Kd.M (Kd.int .i64) _ _ _ 14 [.int .i64 14] from rfl) (Reps.one (show Kd.M (Kd.int .i64) _ _ _ 15 [.int .i64 15] from rfl) (Reps.one (show Kd.M (Kd.int .i64) _ _ _ 26 [.int .i64 26] from rfl) (Reps.one (show Kd.M (Kd.int .i64) _ _ _ 16 [.int .i64 16] from rfl) (Reps.one (show Kd.M (Kd.int .i64) _ _ _ 17 [.int .i64 17] from rfl) (Reps.one (show Kd.M (Kd.int .i64) _ _ _ 18 [.int .i64 18] from rfl) (Reps.one (show Kd.M (Kd.int .i64) _ _ _ 19 [.int .i64 19] from rfl) (Reps.one (show Kd.M (Kd.int .i64) _ _ _ 22 [.int .i64 22] from rfl) (Reps.one (show Kd.M (Kd.int .i64) _ _ _ 34 [.int .i64 34] from rfl) (Reps.one (show Kd.M (Kd.int .i64) _ _ _ 35 [.int .i64 35] from rfl) (Reps.none _ _)))))))))))))); intro v137 w11 ho12 hb hg_ hnew_; clear hg_ hnew_; (first | rw [← Ny136.out] at ho12 | (simp only [Int.reduceToNat] at ho12; rw [← Ny136.out] at ho12)); have n0_ := Aside0.mk (Kd.R_lower ho12 (below_size (by repeat (first | (with_reducible first | exact HB.out | apply below_alloc | apply pw_below_drewN | apply below_drew1) | exact HB.out)))); have n1_ := Aside0.mk (below_step (by repeat (first | (with_reducible first | exact HB.out | apply below_alloc | apply pw_below_drewN | apply below_drew1) | exact HB.out)) hb); clear HB; have HO138 := n0_; have HB := n1_; clear n0_ n1_; clear hb ho12; obtain ⟨Ao13, co13, eo13⟩ := Kd.R_slice HO138.out; subst eo13; have p139 : 0 ≤ (a0 : Int) := of_decide_eq_true (by first | (with_reducible assumption) | assumption); have q139 : a0 < (y136.length : Int) := of_decide_eq_true (by first | (with_reducible assumption) | assumption); obtain ⟨ad139, e139, hx139_0⟩ := Kd.at_int (Kd.R_reads' HO138.out).2.2 a0 p139 q139; cases e139; replace p139 := eq_true p139; replace q139 := eq_true q139))
          go_ret2
          exact ⟨by first | rfl | (simp [errW_none, errW_some] <;> rfl) | (simp [*, errW_none, errW_some] <;> rfl), by repeat (first | (with_reducible first | exact HB.out | apply below_alloc | apply pw_below_drewN | apply below_drew1) | exact HB.out)⟩
        · rw [if_neg c10] at H
          exact absurd H (by simp)
      · rw [if_neg c9] at H
        exact absurd H (by simp)

/-! ### impl_comparison: function 14 -/
def impl_comparison.f (a0 : Int) : Option (Int × Bool) := (some (([39, 44, 40, 45, 41, 46] : List Int) : List Int)).bind fun y140 => (if a0 < 0 then (some (0, false)) else (if a0 ≥ (y140.length : Int) then (some (0, false)) else (if 0 ≤ a0 then (if a0 < (y140.length : Int) then (some (rd y140 a0, true)) else (none)) else (none))))
set_option maxHeartbeats 8000000 in
set_option maxRecDepth 100000 in
theorem impl_comparison.calls (a0 : Int) (r1 : Int) (r2 : Bool) (w : World) (h : impl_comparison.f a0 = some (r1, r2)) :
    Calls Tryz.prog 14 #[.int .i64 a0] w fun e w' => e = .returned (.tuple #[.int .i64 r1, .bool r2]) ∧ Below w.heap.size w w' := by
  have HB := Aside0.mk (Below.refl w.heap.size w)
  have H : ((some (([39, 44, 40, 45, 41, 46] : List Int) : List Int)).bind fun y140 => (if a0 < 0 then (some (0, false)) else (if a0 ≥ (y140.length : Int) then (some (0, false)) else (if 0 ≤ a0 then (if a0 < (y140.length : Int) then (some (rd y140 a0, true)) else (none)) else (none))))) = some (r1, r2) := h
  clear h
  obtain ⟨y140, hy140⟩ : ∃ y_ : List Int, y_ = (([39, 44, 40, 45, 41, 46] : List Int)) := ⟨_, rfl⟩
  replace H : (if a0 < 0 then (some (0, false)) else (if a0 ≥ (y140.length : Int) then (some (0, false)) else (if 0 ≤ a0 then (if a0 < (y140.length : Int) then (some (rd y140 a0, true)) else (none)) else (none)))) = some (r1, r2) := by first | (rw [hy140]; with_reducible exact H) | (have H2_ := (Option.bind_some _ _).symm.trans H; rw [hy140]; with_reducible exact H2_) | (have H2_ := (Option.bind_some _ _).symm.trans H; with_reducible exact H2_) | with_reducible exact H | (rw [hy140]; exact H) | exact H
  have Ny140 := Aside0.mk hy140
  clear hy140
  by_cases c2 : a0 < 0
  · rw [if_pos c2] at H
    have c2b0 : decide (a0 < 0) = true := decide_eq_true c2
    clear c2
    simp only [Option.some.injEq, Prod.mk.injEq] at H
    obtain ⟨rfl, rfl⟩ := H
    go_enter Tryz.func14, Tryz.ntmps14
    go_wp2_with (first | ((with_reducible refine gate_dst (N := 5) rfl ?_); (try (refine gate_guard (by rfl) ?_; dsimp only)); refine Kd.R_lit (Kd.int .i64) _ 33 ?hg (N := 5) ?hd (xs := ([39, 44, 40, 45, 41, 46] : List Int)) (inner := [.int .i64 39, .int .i64 44, .int .i64 40, .int .i64 45, .int .i64 41, .int .i64 46]) (ok := fun _ => True) (okp := fun _ => True) ?hr ?hp (fun _ hk => hk) trivial (Below.refl _ _) (Nat.le_refl _) (by simp) ?_; (case hd => rfl); (case hg => rfl); (case hr => first | (go_simp; done) | (go_simp; rfl)); (case hp => exact (Reps.one (show Kd.M (Kd.int .i64) _ _ _ 39 [.int .i64 39] from rfl) (Reps.one (show Kd.M (Kd.int .i64) _ _ _ 44 [.int .i64 44] from rfl) (Reps.one (show Kd.M (Kd.int .i64) _ _ _ 40 [.int .i64 40] from rfl) (Reps.one (show Kd.M (Kd.int .i64) _ _ _ 45 [.int .i64 45] from rfl) (Reps.one (show Kd.M (Kd.int .i64) _ _ _ 41 [.int .i64 41] from rfl) (Reps.one (show Kd.M (Kd.int .i64) _ _ _ 46 [.int .i64 46] from rfl) (Reps.none _ _)))))))); intro v141 w3 ho4 hb hg_ hnew_; clear hg_ hnew_; (first | rw [← Ny140.out] at ho4 | (simp only [Int.reduceToNat] at ho4; rw [← Ny140.out] at ho4)); have n0_ := Aside0.mk (Kd.R_lower ho4 (below_size (by repeat (first | (with_reducible first | exact HB.out | apply below_alloc | apply pw_below_drewN | apply below_drew1) | exact HB.out)))); have n1_ := Aside0.mk (below_step (by repeat (first | (with_reducible first | exact HB.out | apply below_alloc | apply pw_below_drewN | apply below_drew1) | exact HB.out)) hb); clear HB; have HO142 := n0_; have HB := n1_; clear n0_ n1_; clear hb ho4))
    go_ret2
    exact ⟨by first | rfl | (simp [errW_none, errW_some] <;> rfl) | (simp [*, errW_none, errW_some] <;> rfl), by repeat (first | (with_reducible first | exact HB.out | apply below_alloc | apply pw_below_drewN | apply below_drew1) | exact HB.out)⟩
  · rw [if_neg c2] at H
    have c2b0 : decide (a0 < 0) = false := decide_eq_false c2
    clear c2
    by_cases c5 : a0 ≥ (y140.length : Int)
    · rw [if_pos c5] at H
      have c5b0 : decide ((y140.length : Int) ≤ a0) = true := decide_eq_true c5
      clear c5
      simp only [Option.some.injEq, Prod.mk.injEq] at H
      obtain ⟨rfl, rfl⟩ := H
      go_enter Tryz.func14, Tryz.ntmps14
      go_wp2_with (first | ((with_reducible refine gate_dst (N := 5) rfl ?_); (try (refine gate_guard (by rfl) ?_; dsimp only)); refine Kd.R_lit (Kd.int .i64) _ 33 ?hg (N := 5) ?hd (xs := ([39, 44, 40, 45, 41, 46] : List Int)) (inner := [.int .i64 39, .int .i64 44, .int .i64 40, .int .i64 45, .int .i64 41, .int .i64 46]) (ok := fun _ => True) (okp := fun _ => True) ?hr ?hp (fun _ hk => hk) trivial (Below.refl _ _) (Nat.le_refl _) (by simp) ?_; (case hd => rfl); (case hg => rfl); (case hr => first | (go_simp; done) | (go_simp; rfl)); (case hp => exact (Reps.one (show Kd.M (Kd.int .i64) _ _ _ 39 [.int .i64 39] from rfl) (Reps.one (show Kd.M (Kd.int .i64) _ _ _ 44 [.int .i64 44] from rfl) (Reps.one (show Kd.M (Kd.int .i64) _ _ _ 40 [.int .i64 40] from rfl) (Reps.one (show Kd.M (Kd.int .i64) _ _ _ 45 [.int .i64 45] from rfl) (Reps.one (show Kd.M (Kd.int .i64) _ _ _ 41 [.int .i64 41] from rfl) (Reps.one (show Kd.M (Kd.int .i64) _ _ _ 46 [.int .i64 46] from rfl) (Reps.none _ _)))))))); intro v141 w6 ho7 hb hg_ hnew_; clear hg_ hnew_; (first | rw [← Ny140.out] at ho7 | (simp only [Int.reduceToNat] at ho7; rw [← Ny140.out] at ho7)); have n0_ := Aside0.mk (Kd.R_lower ho7 (below_size (by repeat (first | (with_reducible first | exact HB.out | apply below_alloc | apply pw_below_drewN | apply below_drew1) | exact HB.out)))); have n1_ := Aside0.mk (below_step (by repeat (first | (with_reducible first | exact HB.out | apply below_alloc | apply pw_below_drewN | apply below_drew1) | exact HB.out)) hb); clear HB; have HO142 := n0_; have HB := n1_; clear n0_ n1_; clear hb ho7; obtain ⟨Ao8, co8, eo8⟩ := Kd.R_slice HO142.out; subst eo8))
      go_ret2
      exact ⟨by first | rfl | (simp [errW_none, errW_some] <;> rfl) | (simp [*, errW_none, errW_some] <;> rfl), by repeat (first | (with_reducible first | exact HB.out | apply below_alloc | apply pw_below_drewN | apply below_drew1) | exact HB.out)⟩
    · rw [if_neg c5] at H
      have c5b0 : decide ((y140.length : Int) ≤ a0) = false := decide_eq_false c5
      clear c5
      by_cases c9 : 0 ≤ a0
      · rw [if_pos c9] at H
        have c9b0 : decide (0 ≤ a0) = true := decide_eq_true c9
        clear c9
        by_cases c10 : a0 < (y140.length : Int)
        · rw [if_pos c10] at H
          have c10b0 : decide (a0 < (y140.length : Int)) = true := decide_eq_true c10
          clear c10
          simp only [Option.some.injEq, Prod.mk.injEq] at H
          obtain ⟨rfl, rfl⟩ := H
          go_enter Tryz.func14, Tryz.ntmps14
          go_wp2_with (first | ((with_reducible refine gate_dst (N := 5) rfl ?_); (try (refine gate_guard (by rfl) ?_; dsimp only)); refine Kd.R_lit (Kd.int .i64) _ 33 ?hg (N := 5) ?hd (xs := ([39, 44, 40, 45, 41, 46] : List Int)) (inner := [.int .i64 39, .int .i64 44, .int .i64 40, .int .i64 45, .int .i64 41, .int .i64 46]) (ok := fun _ => True) (okp := fun _ => True) ?hr ?hp (fun _ hk => hk) trivial (Below.refl _ _) (Nat.le_refl _) (by simp) ?_; (case hd => rfl); (case hg => rfl); (case hr => first | (go_simp; done) | (go_simp; rfl)); (case hp => exact (Reps.one (show Kd.M (Kd.int .i64) _ _ _ 39 [.int .i64 39] from rfl) (Reps.one (show Kd.M (Kd.int .i64) _ _ _ 44 [.int .i64 44] from rfl) (Reps.one (show Kd.M (Kd.int .i64) _ _ _ 40 [.int .i64 40] from rfl) (Reps.one (show Kd.M (Kd.int .i64) _ _ _ 45 [.int .i64 45] from rfl) (Reps.one (show Kd.M (Kd.int .i64) _ _ _ 41 [.int .i64 41] from rfl) (Reps.one (show Kd.M (Kd.int .i64) _ _ _ 46 [.int .i64 46] from rfl) (Reps.none _ _)))))))); intro v141 w11 ho12 hb hg_ hnew_; clear hg_ hnew_; (first | rw [← Ny140.out] at ho12 | (simp only [Int.reduceToNat] at ho12; rw [← Ny140.out] at ho12)); have n0_ := Aside0.mk (Kd.R_lower ho12 (below_size (by repeat (first | (with_reducible first | exact HB.out | apply below_alloc | apply pw_below_drewN | apply below_drew1) | exact HB.out)))); have n1_ := Aside0.mk (below_step (by repeat (first | (with_reducible first | exact HB.out | apply below_alloc | apply pw_below_drewN | apply below_drew1) | exact HB.out)) hb); clear HB; have HO142 := n0_; have HB := n1_; clear n0_ n1_; clear hb ho12; obtain ⟨Ao13, co13, eo13⟩ := Kd.R_slice HO142.out; subst eo13; have p143 : 0 ≤ (a0 : Int) := of_decide_eq_true (by first | (with_reducible assumption) | assumption); have q143 : a0 < (y140.length : Int) := of_decide_eq_true (by first | (with_reducible assumption) | assumption); obtain ⟨ad143, e143, hx143_0⟩ := Kd.at_int (Kd.R_reads' HO142.out).2.2 a0 p143 q143; cases e143; replace p143 := eq_true p143; replace q143 := eq_true q143))
          go_ret2
          exact ⟨by first | rfl | (simp [errW_none, errW_some] <;> rfl) | (simp [*, errW_none, errW_some] <;> rfl), by repeat (first | (with_reducible first | exact HB.out | apply below_alloc | apply pw_below_drewN | apply below_drew1) | exact HB.out)⟩
        · rw [if_neg c10] at H
          exact absurd H (by simp)
      · rw [if_neg c9] at H
        exact absurd H (by simp)

end Go.Proofs.YtlfmgidpdmmpkaaGreatDoor.Ps

-- PRINTED by print.py (a twelfth state) out of the translation. Not trusted: Lean checks it.
import Derived.Test.YtnhonclncjgjoaaGreatDoorPs0
import Derived.Test.YtnhonclncjgjoaaGreatDoorPs1
import Derived.Test.YtnhonclncjgjoaaGreatDoorPs2
namespace Go.Proofs.YtnhonclncjgjoaaGreatDoor.Ps
open Go.RowKit Go.Proofs.YtnhonclncjgjoaaGreatDoorW.PrintWords Go.Proofs.YtnhonclncjgjoaaGreatDoorW.PrintLast Go.Proofs.YtnhonclncjgjoaaGreatDoorW.PrintMore
attribute [local go_sem] max2_int min2_int max_two min_two max_three min_three max_four min_four   -- for this text's walks alone
set_option linter.unusedVariables false
set_option linter.unusedSimpArgs false

/-! ### spec_Mul: function 20 -/
mutual
def spec_Mul.l0 : Nat → List Int → List Int → List Int → Int → Int → Option (List Int)
  | 0, _, _, _, _, _ => none
  | k + 1, x1, x5, x17, x18, x19 => if x19 < x18 then (if 0 ≤ x19 then (if x19 < (x17.length : Int) then (spec_Mul.l1 k x1 x5 x19 (rd x17 x19) 0 x17 x18 x19 x1 (x1.length : Int) 0) else (none)) else (none)) else ((spec_trim.f k x5).bind fun t194 => (some t194))
def spec_Mul.l1 : Nat → List Int → List Int → Int → Int → Int → List Int → Int → Int → List Int → Int → Int → Option (List Int)
  | 0, _, _, _, _, _, _, _, _, _, _, _ => none
  | k + 1, x1, x5, x6, x7, x8, x17, x18, x19, x24, x25, x26 => if x26 < x25 then (if 0 ≤ x26 then (if x26 < (x24.length : Int) then (if 0 ≤ (wrap64 (x6 + x26)) then (if (wrap64 (x6 + x26)) < (x5.length : Int) then (spec_Mul.l1 k x1 (x5.set ((wrap64 (x6 + x26)) : Int).toNat (Int.tmod (wrap64 (x8 + (wrap64 ((rd x5 (wrap64 (x6 + x26))) + (wrap64 (x7 * (rd x24 x26))))))) 65536)) x6 x7 (wrap64 (Int.tdiv (wrap64 (x8 + (wrap64 ((rd x5 (wrap64 (x6 + x26))) + (wrap64 (x7 * (rd x24 x26))))))) 65536)) x17 x18 x19 x24 x25 (wrap64 (x26 + 1))) else (none)) else (none)) else (none)) else (none)) else (if 0 ≤ (wrap64 (x6 + (x1.length : Int))) then (if (wrap64 (x6 + (x1.length : Int))) < (x5.length : Int) then (spec_Mul.l0 k x1 (x5.set ((wrap64 (x6 + (x1.length : Int))) : Int).toNat x8) x17 x18 (wrap64 (x19 + 1))) else (none)) else (none))
end
def spec_Mul.f (k : Nat) (l0 : List Int) (l1 : List Int) : Option (List Int) := if 0 ≤ (wrap64 ((l0.length : Int) + (l1.length : Int))) then (if (wrap64 ((l0.length : Int) + (l1.length : Int)) : Int).toNat ≤ 35184372088832 then (spec_Mul.l0 k l1 (List.replicate (wrap64 ((l0.length : Int) + (l1.length : Int)) : Int).toNat 0) l0 (l0.length : Int) 0) else (none)) else (none)
theorem spec_Mul.mono_l : ∀ k, (∀ y0 y1 y2 y3 y4, LeO (spec_Mul.l0 k y0 y1 y2 y3 y4) (spec_Mul.l0 (k + 1) y0 y1 y2 y3 y4)) ∧ (∀ y0 y1 y2 y3 y4 y5 y6 y7 y8 y9 y10, LeO (spec_Mul.l1 k y0 y1 y2 y3 y4 y5 y6 y7 y8 y9 y10) (spec_Mul.l1 (k + 1) y0 y1 y2 y3 y4 y5 y6 y7 y8 y9 y10))
  | 0 => ⟨fun _ _ _ _ _ r h => by simp [spec_Mul.l0] at h, fun _ _ _ _ _ _ _ _ _ _ _ r h => by simp [spec_Mul.l1] at h⟩
  | k + 1 => by
    obtain ⟨ih0, ih1⟩ := spec_Mul.mono_l k
    refine ⟨?_, ?_⟩
    · intro y0 y1 y2 y3 y4
      unfold spec_Mul.l0
      repeat' first
      | (with_reducible exact ih0 _ _ _ _ _)
      | (with_reducible exact ih1 _ _ _ _ _ _ _ _ _ _ _)
      | (with_reducible exact spec_trim.mono _ _)
      | (with_reducible exact LeO.refl _)
      | (with_reducible exact LeO.none _)
      | (with_reducible refine LeO.ite ?_ ?_)
      | (with_reducible refine LeO.bind ?_ (fun _ => ?_))
      | exact ih0 _ _ _ _ _
      | exact ih1 _ _ _ _ _ _ _ _ _ _ _
      | exact spec_trim.mono _ _
      | exact LeO.none _
      | refine LeO.ite ?_ ?_
      | refine LeO.bind ?_ (fun _ => ?_)
    · intro y0 y1 y2 y3 y4 y5 y6 y7 y8 y9 y10
      unfold spec_Mul.l1
      repeat' first
      | (with_reducible exact ih0 _ _ _ _ _)
      | (with_reducible exact ih1 _ _ _ _ _ _ _ _ _ _ _)
      | (with_reducible exact spec_trim.mono _ _)
      | (with_reducible exact LeO.refl _)
      | (with_reducible exact LeO.none _)
      | (with_reducible refine LeO.ite ?_ ?_)
      | (with_reducible refine LeO.bind ?_ (fun _ => ?_))
      | exact ih0 _ _ _ _ _
      | exact ih1 _ _ _ _ _ _ _ _ _ _ _
      | exact spec_trim.mono _ _
      | exact LeO.none _
      | refine LeO.ite ?_ ?_
      | refine LeO.bind ?_ (fun _ => ?_)
theorem spec_Mul.mono : ∀ a0 a1 k, LeO (spec_Mul.f k a0 a1) (spec_Mul.f (k + 1) a0 a1) := by
  intro a0 a1 k
  obtain ⟨ih0, ih1⟩ := spec_Mul.mono_l k
  unfold spec_Mul.f
  repeat' first
      | (with_reducible exact ih0 _ _ _ _ _)
      | (with_reducible exact ih1 _ _ _ _ _ _ _ _ _ _ _)
      | (with_reducible exact spec_trim.mono _ _)
      | (with_reducible exact LeO.refl _)
      | (with_reducible exact LeO.none _)
      | (with_reducible refine LeO.ite ?_ ?_)
      | (with_reducible refine LeO.bind ?_ (fun _ => ?_))
      | exact ih0 _ _ _ _ _
      | exact ih1 _ _ _ _ _ _ _ _ _ _ _
      | exact spec_trim.mono _ _
      | exact LeO.none _
      | refine LeO.ite ?_ ?_
      | refine LeO.bind ?_ (fun _ => ?_)
set_option maxHeartbeats 8000000 in
set_option maxRecDepth 100000 in
theorem spec_Mul.calls (k : Nat) (A0 : Option Addr) (c0 : Nat) (l0 : List Int) (A1 : Option Addr) (c1 : Nat) (l1 : List Int) (r : List Int) (w : World) (hr0 : Kd.C (Kd.int .i64) w A0 l0.length l0) (hc0 : l0.length ≤ c0) (hr1 : Kd.C (Kd.int .i64) w A1 l1.length l1) (hc1 : l1.length ≤ c1) (h : spec_Mul.f k l0 l1 = some r) :
    Calls Tryz.prog 20 #[.slice A0 l0.length c0, .slice A1 l1.length c1] w fun e w' => ∃ v0_ : Value, e = .returned (v0_) ∧ Kd.V (Kd.int .i64) 3 w' w.heap.size (fun k_ => (w.heap.size ≤ k_)) v0_ r ∧ Below w.heap.size w w' := by
  have HR0 := Aside0.mk hr0
  have HC0 := Aside0.mk hc0
  clear hr0 hc0
  have HR1 := Aside0.mk hr1
  have HC1 := Aside0.mk hc1
  clear hr1 hc1
  have HB := Aside0.mk (Below.refl w.heap.size w)
  have H : (if 0 ≤ (wrap64 ((l0.length : Int) + (l1.length : Int))) then (if (wrap64 ((l0.length : Int) + (l1.length : Int)) : Int).toNat ≤ 35184372088832 then (spec_Mul.l0 k l1 (List.replicate (wrap64 ((l0.length : Int) + (l1.length : Int)) : Int).toNat 0) l0 (l0.length : Int) 0) else (none)) else (none)) = some r := h
  clear h
  obtain ⟨ji3, hji3⟩ : ∃ j_ : Int, (wrap64 ((l0.length : Int) + (l1.length : Int))) = j_ := ⟨_, rfl⟩
  replace H : (if 0 ≤ (ji3) then (if (ji3 : Int).toNat ≤ 35184372088832 then (spec_Mul.l0 k l1 (List.replicate (ji3 : Int).toNat 0) l0 (l0.length : Int) 0) else (none)) else (none)) = some r := by first | (rw [hji3] at H; exact H) | (simp only [hji3] at H ⊢; exact H)
  have hji3w : (IntKind.i64.wrap ((l0.length : Int) + (l1.length : Int))) = ji3 := (i64_w _).trans hji3
  by_cases c4 : 0 ≤ (ji3)
  · rw [if_pos c4] at H
    have c4b0 := eq_true c4
    have c4b1 : decide (0 ≤ (ji3)) = true := decide_eq_true c4
    clear c4
    by_cases c5 : (ji3 : Int).toNat ≤ 35184372088832
    · rw [if_pos c5] at H
      have c5b0 := eq_true c5
      have c5b1 : decide ((ji3 : Int).toNat ≤ 35184372088832) = true := decide_eq_true c5
      clear c5
      obtain ⟨y191, hy191⟩ : ∃ y_ : List Int, y_ = (List.replicate (ji3 : Int).toNat 0) := ⟨_, rfl⟩
      replace H : (spec_Mul.l0 k l1 y191 l0 (l0.length : Int) 0) = some r := by first | (rw [hy191]; with_reducible exact H) | (have H2_ := (Option.bind_some _ _).symm.trans H; rw [hy191]; with_reducible exact H2_) | (have H2_ := (Option.bind_some _ _).symm.trans H; with_reducible exact H2_) | with_reducible exact H | (rw [hy191]; exact H) | exact H
      have Ny191 := Aside0.mk hy191
      clear hy191
      have H' := Aside0.mk H
      clear H
      go_enter Tryz.func20, Tryz.ntmps20
      go_wp2_with (first | ((with_reducible refine gate_dst (N := 16) rfl ?_); refine Kd.R_make (Kd.int .i64) _ 3 rfl (N := 16) rfl 24 _ _ rfl ji3 rfl rfl Tryz.underlying24 (.int .i64 0) 8 info3 rfl (by decide) (by omega) 0 (ok := fun _ => True) (okp := fun _ => True) rfl (fun _ hk => hk) trivial (of_decide_eq_true (by first | (with_reducible assumption) | assumption)) (Nat.le_trans (Nat.mul_le_mul_right _ (of_decide_eq_true (by first | (with_reducible assumption) | assumption) : ji3.toNat ≤ 35184372088832)) (by omega)) (Below.refl _ _) (Nat.le_refl _) ?_; intro v192 w6 ho7 hb hg_ hnew_; clear hg_ hnew_; (first | rw [← Ny191.out] at ho7 | (simp only [Int.reduceToNat] at ho7; rw [← Ny191.out] at ho7)); have n0_ := Aside0.mk (Kd.R_lower (Kd.R_newM (M := fun k_ => (w.heap.size ≤ k_)) ho7 (below_size (by repeat (first | (with_reducible first | exact HB.out | apply below_alloc | apply pw_below_drewN | apply below_drew1) | exact HB.out))) (fun k_ h_ => h_)) (below_size (by repeat (first | (with_reducible first | exact HB.out | apply below_alloc | apply pw_below_drewN | apply below_drew1) | exact HB.out)))); have n1_ := Aside0.mk (below_step (by repeat (first | (with_reducible first | exact HB.out | apply below_alloc | apply pw_below_drewN | apply below_drew1) | exact HB.out)) hb); clear HB; have HO193 := n0_; have HB := n1_; clear n0_ n1_; clear hb ho7))
      go_loopg [19] k (fun kq v19 w' => ∃ (x5_1 : List Int) (x19_1 : Int), v19 = .int .i64 x19_1 ∧ Aside0 (spec_Mul.l0 kq l1 x5_1 l0 (l0.length : Int) x19_1 = some r) ∧ Aside0 (kq ≤ k) ∧ Aside0 (Kd.R (Kd.int .i64) 3 w' w.heap.size (fun k_ => (w.heap.size ≤ k_)) v192 x5_1) ∧ Aside0 (Below w.heap.size w w'))
      case atStart => exact ⟨(y191), (0), (by first | rfl | (simp; done) | (simp [*]; done)), H', ⟨Nat.le_refl _⟩, ⟨by (with_reducible repeat (first | apply Kd.R_alloc | apply Kd.R_drewN | apply Kd.R_drew)); exact Kd.R_mono HO193.out (fun _ hk => hk.1)⟩, ⟨by repeat (first | (with_reducible first | exact HB.out | apply below_alloc | apply pw_below_drewN | apply below_drew1) | exact HB.out)⟩⟩
      case round =>
        clear H'
        try clear c1
        try clear c2
        try clear p2
        try clear c4
        try clear c4b0
        try clear c4b1
        try clear c5
        try clear c5b0
        try clear c5b1
        try clear p6
        obtain ⟨x5_1, x19_1, rfl, HA, HK1, HO_5, HB⟩ := hrel
        cases gk with
        | zero => exact absurd HA.out (by simp [spec_Mul.l0])
        | succ k1 =>
          have H := HA.out
          clear HA
          simp only [spec_Mul.l0] at H
          by_cases c8 : x19_1 < (l0.length : Int)
          · rw [if_pos c8] at H
            have c8b0 : decide (x19_1 < (l0.length : Int)) = true := decide_eq_true c8
            clear c8
            by_cases c9 : 0 ≤ x19_1
            · rw [if_pos c9] at H
              have c9b0 : decide (0 ≤ x19_1) = true := decide_eq_true c9
              clear c9
              by_cases c10 : x19_1 < (l0.length : Int)
              · rw [if_pos c10] at H
                have c10b0 : decide (x19_1 < (l0.length : Int)) = true := decide_eq_true c10
                clear c10
                have H' := Aside0.mk H
                clear H
                have p197 : 0 ≤ (x19_1 : Int) := of_decide_eq_true (by first | (with_reducible assumption) | assumption)
                have q197 : x19_1 < (l0.length : Int) := of_decide_eq_true (by first | (with_reducible assumption) | assumption)
                obtain ⟨ad197, e197, hx197_0⟩ := Kd.at_int HR0.out x19_1 p197 q197
                cases e197
                replace hx197_0 := (HB.out.cell (World.block_lt_of_cell? w _ hx197_0)).trans hx197_0
                replace p197 := eq_true p197
                replace q197 := eq_true q197
                go_wp2
                go_loopg [8, 26] k1 (fun kq v8 v26 w' => ∃ (x5_2 : List Int) (x8_2 : Int) (x26_2 : Int), v8 = .int .i64 x8_2 ∧ v26 = .int .i64 x26_2 ∧ Aside0 (spec_Mul.l1 kq l1 x5_2 x19_1 (rd l0 x19_1) x8_2 l0 (l0.length : Int) x19_1 l1 (l1.length : Int) x26_2 = some r) ∧ Aside0 (kq ≤ k1) ∧ Aside0 (Kd.R (Kd.int .i64) 3 w' w.heap.size (fun k_ => (w.heap.size ≤ k_)) v192 x5_2) ∧ Aside0 (Below w.heap.size w w'))
                case atStart => exact ⟨(x5_1), (0), (0), (by first | rfl | (simp; done) | (simp [*]; done)), (by first | rfl | (simp; done) | (simp [*]; done)), H', ⟨Nat.le_refl _⟩, ⟨by (with_reducible repeat (first | apply Kd.R_alloc | apply Kd.R_drewN | apply Kd.R_drew)); exact HO_5.out⟩, ⟨by repeat (first | (with_reducible first | exact HB.out | apply below_alloc | apply pw_below_drewN | apply below_drew1) | exact HB.out)⟩⟩
                case round =>
                  clear H'
                  try clear c1
                  try clear p1
                  try clear q1
                  try clear hx1
                  try clear c2
                  try clear p2
                  try clear c4
                  try clear c4b0
                  try clear c4b1
                  try clear c5
                  try clear c5b0
                  try clear c5b1
                  try clear p6
                  try clear c8
                  try clear c8b0
                  try clear c9
                  try clear c9b0
                  try clear c10
                  try clear c10b0
                  try clear hx197_0
                  try clear p197
                  try clear p2
                  try clear p6
                  try clear q197
                  obtain ⟨x5_2, x8_2, x26_2, rfl, rfl, HA, HK2, HO_5, HB⟩ := hrel
                  cases gk with
                  | zero => exact absurd HA.out (by simp [spec_Mul.l1])
                  | succ k2 =>
                    have H := HA.out
                    clear HA
                    simp only [spec_Mul.l1] at H
                    by_cases c11 : x26_2 < (l1.length : Int)
                    · rw [if_pos c11] at H
                      have c11b0 : decide (x26_2 < (l1.length : Int)) = true := decide_eq_true c11
                      clear c11
                      by_cases c12 : 0 ≤ x26_2
                      · rw [if_pos c12] at H
                        have c12b0 : decide (0 ≤ x26_2) = true := decide_eq_true c12
                        clear c12
                        by_cases c13 : x26_2 < (l1.length : Int)
                        · rw [if_pos c13] at H
                          have c13b0 : decide (x26_2 < (l1.length : Int)) = true := decide_eq_true c13
                          clear c13
                          obtain ⟨ji14, hji14⟩ : ∃ j_ : Int, (wrap64 (x19_1 + x26_2)) = j_ := ⟨_, rfl⟩
                          replace H : (if 0 ≤ (ji14) then (if (ji14) < (x5_2.length : Int) then (spec_Mul.l1 k2 l1 (x5_2.set ((ji14) : Int).toNat (Int.tmod (wrap64 (x8_2 + (wrap64 ((rd x5_2 (ji14)) + (wrap64 ((rd l0 x19_1) * (rd l1 x26_2))))))) 65536)) x19_1 (rd l0 x19_1) (wrap64 (Int.tdiv (wrap64 (x8_2 + (wrap64 ((rd x5_2 (ji14)) + (wrap64 ((rd l0 x19_1) * (rd l1 x26_2))))))) 65536)) l0 (l0.length : Int) x19_1 l1 (l1.length : Int) (wrap64 (x26_2 + 1))) else (none)) else (none)) = some r := by first | (rw [hji14] at H; exact H) | (simp only [hji14] at H ⊢; exact H)
                          have hji14w : (IntKind.i64.wrap (x19_1 + x26_2)) = ji14 := (i64_w _).trans hji14
                          by_cases c15 : 0 ≤ (ji14)
                          · rw [if_pos c15] at H
                            have c15b0 : decide (0 ≤ (ji14)) = true := decide_eq_true c15
                            clear c15
                            by_cases c16 : (ji14) < (x5_2.length : Int)
                            · rw [if_pos c16] at H
                              have c16b0 : decide ((ji14) < (x5_2.length : Int)) = true := decide_eq_true c16
                              clear c16
                              obtain ⟨y200, hy200⟩ : ∃ y_ : List Int, y_ = (x5_2.set ((ji14) : Int).toNat (Int.tmod (wrap64 (x8_2 + (wrap64 ((rd x5_2 (ji14)) + (wrap64 ((rd l0 x19_1) * (rd l1 x26_2))))))) 65536)) := ⟨_, rfl⟩
                              replace H : (spec_Mul.l1 k2 l1 y200 x19_1 (rd l0 x19_1) (wrap64 (Int.tdiv (wrap64 (x8_2 + (wrap64 ((rd x5_2 (ji14)) + (wrap64 ((rd l0 x19_1) * (rd l1 x26_2))))))) 65536)) l0 (l0.length : Int) x19_1 l1 (l1.length : Int) (wrap64 (x26_2 + 1))) = some r := by first | (rw [hy200]; with_reducible exact H) | (have H2_ := (Option.bind_some _ _).symm.trans H; rw [hy200]; with_reducible exact H2_) | (have H2_ := (Option.bind_some _ _).symm.trans H; with_reducible exact H2_) | with_reducible exact H | (rw [hy200]; exact H) | exact H
                              have Ny200 := Aside0.mk hy200
                              clear hy200
                              have H' := Aside0.mk H
                              clear H
                              have p198 : 0 ≤ (x26_2 : Int) := of_decide_eq_true (by first | (with_reducible assumption) | assumption)
                              have q198 : x26_2 < (l1.length : Int) := of_decide_eq_true (by first | (with_reducible assumption) | assumption)
                              obtain ⟨ad198, e198, hx198_0⟩ := Kd.at_int HR1.out x26_2 p198 q198
                              cases e198
                              replace hx198_0 := (HB.out.cell (World.block_lt_of_cell? w _ hx198_0)).trans hx198_0
                              replace p198 := eq_true p198
                              replace q198 := eq_true q198
                              obtain ⟨Ao18, co18, eo18⟩ := Kd.R_slice HO_5.out
                              subst eo18
                              have p199 : 0 ≤ ((ji14) : Int) := of_decide_eq_true (by first | (with_reducible assumption) | assumption)
                              have q199 : (ji14) < (x5_2.length : Int) := of_decide_eq_true (by first | (with_reducible assumption) | assumption)
                              obtain ⟨ad199, e199, hx199_0⟩ := Kd.at_int (Kd.R_reads' HO_5.out).2.2 (ji14) p199 q199
                              cases e199
                              replace p199 := eq_true p199
                              replace q199 := eq_true q199
                              have p17 : 0 ≤ ((ji14) : Int) := of_decide_eq_true (by first | (with_reducible assumption) | assumption)
                              have q17 : ((ji14) : Int) < ((x5_2.length : Int) : Int) := of_decide_eq_true (by first | (with_reducible assumption) | assumption)
                              obtain ⟨go17, co17, eo17, gb17, gl17, cl17, HG17⟩ := Kd.R_form HO_5.out (by omega)
                              (first | cases eo17 | (injection eo17 with ea_ en_ ec_; (first | subst ea_ | (injection ea_ with ea_; subst ea_)); subst ec_; clear en_))
                              have GB17 := Aside0.mk gb17
                              have GG17 := Aside0.mk HG17
                              clear gb17 gl17 HG17
                              (first | simp only [add_plain] at hx199_0 | skip)
                              obtain ⟨hx17_0, hf17_0⟩ := Kd.R_celln 0 HO_5.out ((ji14) : Int) p17 q17
                              replace p17 := eq_true p17
                              replace q17 := eq_true q17
                              have HP19 := Kd.R_putg HO_5.out ((ji14) : Int) (Int.tmod (wrap64 (x8_2 + (wrap64 ((rd x5_2 (ji14)) + (wrap64 ((rd l0 x19_1) * (rd l1 x26_2))))))) 65536)
                              go_wp2_with (first | ((with_reducible refine gate_store (t := 3) (p := 49) rfl ?_); refine store_event (t := 3) (p := 49) (v := ?vo_w20) (w1 := (wr.setCell ⟨go17, ((ji14) : Int).toNat, none⟩ (.int .i64 (Int.tmod (wrap64 (x8_2 + (wrap64 ((rd x5_2 (ji14)) + (wrap64 ((rd l0 x19_1) * (rd l1 x26_2))))))) 65536)))) ?hg ?ho ?hn ?hr ?_; (case ho => rfl); (case hg => rfl); (case hn => rfl); (case hr => first | (go_simp; done) | (go_simp; rfl)); intro w20 hw; have hg : wr.grownBy w20 (some go17) := (by rw [hw]; exact HP19.2); have hp_ : Kd.R (Kd.int .i64) 3 w20 w.heap.size (fun k_ => (w.heap.size ≤ k_)) (.slice (some ⟨go17, 0, none⟩) x5_2.length co18) y200 := (by rw [hw, Ny200.out]; exact HP19.1); clear HP19; have n0_ := Aside0.mk (hp_); have n1_ := Aside0.mk ((by rw [hw]; exact below_set (HB.out) GB17.out : Below w.heap.size w w20)); clear HO_5; clear HB; have HO_5 := n0_; have HB := n1_; clear n0_ n1_; clear hg hw hp_))
                              go_roundg k2
                              case measure => have := HK1.out; have := HK2.out; omega
                              case rel => exact ⟨(y200), (wrap64 (Int.tdiv (wrap64 (x8_2 + (wrap64 ((rd x5_2 (ji14)) + (wrap64 ((rd l0 x19_1) * (rd l1 x26_2))))))) 65536)), (wrap64 (x26_2 + 1)), (by first | rfl | (simp; done) | (simp only [← hji14] <;> (first | rfl | simp)) | (simp [*]; done)), (by first | rfl | (simp; done) | (simp [*]; done)), H', ⟨by have := HK1.out; have := HK2.out; omega⟩, ⟨by (with_reducible repeat (first | apply Kd.R_alloc | apply Kd.R_drewN | apply Kd.R_drew)); exact HO_5.out⟩, ⟨by repeat (first | (with_reducible first | exact HB.out | apply below_alloc | apply pw_below_drewN | apply below_drew1) | exact HB.out)⟩⟩
                            · rw [if_neg c16] at H
                              exact absurd H (by simp)
                          · rw [if_neg c15] at H
                            exact absurd H (by simp)
                        · rw [if_neg c13] at H
                          exact absurd H (by simp)
                      · rw [if_neg c12] at H
                        exact absurd H (by simp)
                    · rw [if_neg c11] at H
                      have c11b0 : decide (x26_2 < (l1.length : Int)) = false := decide_eq_false c11
                      clear c11
                      obtain ⟨ji21, hji21⟩ : ∃ j_ : Int, (wrap64 (x19_1 + (l1.length : Int))) = j_ := ⟨_, rfl⟩
                      replace H : (if 0 ≤ (ji21) then (if (ji21) < (x5_2.length : Int) then (spec_Mul.l0 k2 l1 (x5_2.set ((ji21) : Int).toNat x8_2) l0 (l0.length : Int) (wrap64 (x19_1 + 1))) else (none)) else (none)) = some r := by first | (rw [hji21] at H; exact H) | (simp only [hji21] at H ⊢; exact H)
                      have hji21w : (IntKind.i64.wrap (x19_1 + (l1.length : Int))) = ji21 := (i64_w _).trans hji21
                      by_cases c22 : 0 ≤ (ji21)
                      · rw [if_pos c22] at H
                        have c22b0 : decide (0 ≤ (ji21)) = true := decide_eq_true c22
                        clear c22
                        by_cases c23 : (ji21) < (x5_2.length : Int)
                        · rw [if_pos c23] at H
                          have c23b0 : decide ((ji21) < (x5_2.length : Int)) = true := decide_eq_true c23
                          clear c23
                          obtain ⟨y201, hy201⟩ : ∃ y_ : List Int, y_ = (x5_2.set ((ji21) : Int).toNat x8_2) := ⟨_, rfl⟩
                          replace H : (spec_Mul.l0 k2 l1 y201 l0 (l0.length : Int) (wrap64 (x19_1 + 1))) = some r := by first | (rw [hy201]; with_reducible exact H) | (have H2_ := (Option.bind_some _ _).symm.trans H; rw [hy201]; with_reducible exact H2_) | (have H2_ := (Option.bind_some _ _).symm.trans H; with_reducible exact H2_) | with_reducible exact H | (rw [hy201]; exact H) | exact H
                          have Ny201 := Aside0.mk hy201
                          clear hy201
                          have H' := Aside0.mk H
                          clear H
                          have p24 : 0 ≤ ((ji21) : Int) := of_decide_eq_true (by first | (with_reducible assumption) | assumption)
                          have q24 : ((ji21) : Int) < ((x5_2.length : Int) : Int) := of_decide_eq_true (by first | (with_reducible assumption) | assumption)
                          obtain ⟨go24, co24, eo24, gb24, gl24, cl24, HG24⟩ := Kd.R_form HO_5.out (by omega)
                          (first | cases eo24 | (injection eo24 with ea_ en_ ec_; (first | subst ea_ | (injection ea_ with ea_; subst ea_)); subst ec_; clear en_))
                          have GB24 := Aside0.mk gb24
                          have GG24 := Aside0.mk HG24
                          clear gb24 gl24 HG24
                          obtain ⟨hx24_0, hf24_0⟩ := Kd.R_celln 0 HO_5.out ((ji21) : Int) p24 q24
                          replace p24 := eq_true p24
                          replace q24 := eq_true q24
                          have HP25 := Kd.R_putg HO_5.out ((ji21) : Int) x8_2
                          go_wp2_with (first | ((with_reducible refine gate_store (t := 3) (p := 59) rfl ?_); refine store_event (t := 3) (p := 59) (v := ?vo_w26) (w1 := (wr.setCell ⟨go24, ((ji21) : Int).toNat, none⟩ (.int .i64 x8_2))) ?hg ?ho ?hn ?hr ?_; (case ho => rfl); (case hg => rfl); (case hn => rfl); (case hr => first | (go_simp; done) | (go_simp; rfl)); intro w26 hw; have hg : wr.grownBy w26 (some go24) := (by rw [hw]; exact HP25.2); have hp_ : Kd.R (Kd.int .i64) 3 w26 w.heap.size (fun k_ => (w.heap.size ≤ k_)) (.slice (some ⟨go24, 0, none⟩) x5_2.length co24) y201 := (by rw [hw, Ny201.out]; exact HP25.1); clear HP25; have n0_ := Aside0.mk (hp_); have n1_ := Aside0.mk ((by rw [hw]; exact below_set (HB.out) GB24.out : Below w.heap.size w w26)); clear HO_5; clear HB; have HO_5 := n0_; have HB := n1_; clear n0_ n1_; clear hg hw hp_))
                          go_roundg k2
                          case measure => have := HK1.out; have := HK2.out; omega
                          case rel => exact ⟨(y201), (wrap64 (x19_1 + 1)), (by first | rfl | (simp; done) | (simp [*]; done)), H', ⟨by have := HK1.out; have := HK2.out; omega⟩, ⟨by (with_reducible repeat (first | apply Kd.R_alloc | apply Kd.R_drewN | apply Kd.R_drew)); exact HO_5.out⟩, ⟨by repeat (first | (with_reducible first | exact HB.out | apply below_alloc | apply pw_below_drewN | apply below_drew1) | exact HB.out)⟩⟩
                        · rw [if_neg c23] at H
                          exact absurd H (by simp)
                      · rw [if_neg c22] at H
                        exact absurd H (by simp)
              · rw [if_neg c10] at H
                exact absurd H (by simp)
            · rw [if_neg c9] at H
              exact absurd H (by simp)
          · rw [if_neg c8] at H
            have c8b0 : decide (x19_1 < (l0.length : Int)) = false := decide_eq_false c8
            clear c8
            replace H := Option.bind_eq_some_iff.mp H
            obtain ⟨t194, A270, H⟩ := H
            replace H : (some t194) = some r := H
            have A27 := Aside0.mk A270
            clear A270
            obtain rfl := Option.some.inj H
            obtain ⟨Ao28, co28, eo28⟩ := Kd.R_slice HO_5.out
            subst eo28
            go_wp2_with (first | ((with_reducible refine gate_callee (f := 39) rfl ?_); refine goesL_ (some 62) rfl rfl Tryz.func39 (by kernel_rfl) rfl #[.slice Ao28 x5_1.length co28] rfl (by (try simp only [List.map_toArray, List.map_cons, List.map_nil]); first | done | rfl | (simp only [List.length_drop, List.length_take]; rfl)) ?_; (with_reducible refine (spec_trim.calls k1 (fun k_ => some k_ = (.slice Ao28 x5_1.length co28 : Value).ownBlock) _ _ x5_1 t194 _ ?side1 A27.out).mono ?_); (case side1 => exact Kd.R_V (Kd.R_tight rfl (HO_5.out))); rintro e w29 ⟨v195, rfl, ho0, hb⟩; refine ⟨_, rfl, ?_⟩; have n0_ := Aside0.mk (Kd.R_below (by (with_reducible repeat (first | apply Kd.R_alloc | apply Kd.R_drewN | apply Kd.R_drew)); exact HO_5.out) hb); have n1_ := Aside0.mk (Kd.V_lower (Kd.V_mono (ok' := fun k_ => (w.heap.size ≤ k_)) ho0 (fun k_ hk_ => Or.elim hk_ (fun hs_ => ((HO_5.out).1 k_ hs_.symm)) (fun hn_ => (Nat.le_trans (below_size (by repeat (first | (with_reducible first | exact HB.out | apply below_alloc | apply pw_below_drewN | apply below_drew1) | exact HB.out))) hn_)))) (below_size (by repeat (first | (with_reducible first | exact HB.out | apply below_alloc | apply pw_below_drewN | apply below_drew1) | exact HB.out)))); have n2_ := Aside0.mk (below_step (by repeat (first | (with_reducible first | exact HB.out | apply below_alloc | apply pw_below_drewN | apply below_drew1) | exact HB.out)) hb); clear HO_5; clear HB; have HO_5 := n0_; have HO196 := n1_; have HB := n2_; clear n0_ n1_ n2_; (try clear hb); (try clear hb2); (try clear hk); (try clear hi); (try clear ho0)))
            go_ret
            exact ⟨_, by first | rfl | (simp [errW_none, errW_some] <;> rfl) | (simp only [← hji3]; first | rfl | (simp [errW_none, errW_some] <;> rfl)) | (simp [*, errW_none, errW_some] <;> rfl), by (with_reducible repeat (first | apply Kd.V_alloc | apply Kd.V_drewN | apply Kd.V_drew)); exact HO196.out, by repeat (first | (with_reducible first | exact HB.out | apply below_alloc | apply pw_below_drewN | apply below_drew1) | exact HB.out)⟩
    · rw [if_neg c5] at H
      exact absurd H (by simp)
  · rw [if_neg c4] at H
    exact absurd H (by simp)

/-! ### spec_Figures: function 11 -/
mutual
def spec_Figures.l0 : Nat → ByteArray → Int → Bool → List Int → Int → Int → Option (List Int × Int × Int)
  | 0, _, _, _, _, _, _ => none
  | k + 1, x0, x1, x2, x9, x10, x11 => if x11 < (x0.size : Int) then (if 0 ≤ x11 then (if (bt x0 x11) = 95 then (if x10 > 0 then (spec_Figures.j1 k x0 x1 x2 x9 x10 x11 x11 true) else (spec_Figures.j1 k x0 x1 x2 x9 x10 x11 x11 x2)) else (spec_Figures.j1 k x0 x1 x2 x9 x10 x11 x11 false)) else (none)) else (some (x9, x10, x11))
def spec_Figures.j1 : Nat → ByteArray → Int → Bool → List Int → Int → Int → Int → Bool → Option (List Int × Int × Int)
  | 0, _, _, _, _, _, _, _, _ => none
  | k + 1, x0, x1, x2, x9, x10, x11, x12, x29 => if x29 = true then (spec_Figures.j2 k x0 x1 x2 x9 x10 x11 (wrap64 (x12 + 1))) else (spec_Figures.j2 k x0 x1 x2 x9 x10 x11 x12)
def spec_Figures.j2 : Nat → ByteArray → Int → Bool → List Int → Int → Int → Int → Option (List Int × Int × Int)
  | 0, _, _, _, _, _, _, _ => none
  | k + 1, x0, x1, x2, x9, x10, x11, x12 => if x12 ≥ (x0.size : Int) then (spec_Figures.j3 k x0 x1 x2 x9 x10 x11 x12 true) else (if 0 ≤ x12 then (if x12 < (x0.size : Int) then ((spec_digit.f k (bt x0 x12)).bind fun t205 => (spec_Figures.j3 k x0 x1 x2 x9 x10 x11 x12 (decide (t205 ≥ x1)))) else (none)) else (none))
def spec_Figures.j3 : Nat → ByteArray → Int → Bool → List Int → Int → Int → Int → Bool → Option (List Int × Int × Int)
  | 0, _, _, _, _, _, _, _, _ => none
  | k + 1, x0, x1, x2, x9, x10, x11, x12, x43 => if x43 = true then (some (x9, x10, x11)) else ((spec_Small.f k x1).bind fun t206 => ((spec_Mul.f k x9 t206).bind fun t209 => (if 0 ≤ x12 then (if x12 < (x0.size : Int) then ((spec_digit.f k (bt x0 x12)).bind fun t212 => ((spec_Small.f k t212).bind fun t213 => ((spec_Add.f k t209 t213).bind fun t216 => (spec_Figures.l0 k x0 x1 x2 t216 (wrap64 (x10 + 1)) (wrap64 (x12 + 1)))))) else (none)) else (none))))
end
def spec_Figures.f (k : Nat) (a0 : ByteArray) (a1 : Int) (a2 : Bool) : Option (List Int × Int × Int) := spec_Figures.l0 k a0 a1 a2 (([] : List Int)) 0 0
theorem spec_Figures.mono_l : ∀ k, (∀ y0 y1 y2 y3 y4 y5, LeO (spec_Figures.l0 k y0 y1 y2 y3 y4 y5) (spec_Figures.l0 (k + 1) y0 y1 y2 y3 y4 y5)) ∧ (∀ y0 y1 y2 y3 y4 y5 y6 y7, LeO (spec_Figures.j1 k y0 y1 y2 y3 y4 y5 y6 y7) (spec_Figures.j1 (k + 1) y0 y1 y2 y3 y4 y5 y6 y7)) ∧ (∀ y0 y1 y2 y3 y4 y5 y6, LeO (spec_Figures.j2 k y0 y1 y2 y3 y4 y5 y6) (spec_Figures.j2 (k + 1) y0 y1 y2 y3 y4 y5 y6)) ∧ (∀ y0 y1 y2 y3 y4 y5 y6 y7, LeO (spec_Figures.j3 k y0 y1 y2 y3 y4 y5 y6 y7) (spec_Figures.j3 (k + 1) y0 y1 y2 y3 y4 y5 y6 y7))
  | 0 => ⟨fun _ _ _ _ _ _ r h => by simp [spec_Figures.l0] at h, fun _ _ _ _ _ _ _ _ r h => by simp [spec_Figures.j1] at h, fun _ _ _ _ _ _ _ r h => by simp [spec_Figures.j2] at h, fun _ _ _ _ _ _ _ _ r h => by simp [spec_Figures.j3] at h⟩
  | k + 1 => by
    obtain ⟨ih0, ih1, ih2, ih3⟩ := spec_Figures.mono_l k
    refine ⟨?_, ?_, ?_, ?_⟩
    · intro y0 y1 y2 y3 y4 y5
      unfold spec_Figures.l0
      repeat' first
      | (with_reducible exact ih0 _ _ _ _ _ _)
      | (with_reducible exact ih1 _ _ _ _ _ _ _ _)
      | (with_reducible exact ih2 _ _ _ _ _ _ _)
      | (with_reducible exact ih3 _ _ _ _ _ _ _ _)
      | (with_reducible exact spec_Add.mono _ _ _)
      | (with_reducible exact spec_Mul.mono _ _ _)
      | (with_reducible exact spec_Small.mono _ _)
      | (with_reducible exact spec_digit.mono _ _)
      | (with_reducible exact LeO.refl _)
      | (with_reducible exact LeO.none _)
      | (with_reducible refine LeO.ite ?_ ?_)
      | (with_reducible refine LeO.bind ?_ (fun _ => ?_))
      | exact ih0 _ _ _ _ _ _
      | exact ih1 _ _ _ _ _ _ _ _
      | exact ih2 _ _ _ _ _ _ _
      | exact ih3 _ _ _ _ _ _ _ _
      | exact spec_Add.mono _ _ _
      | exact spec_Mul.mono _ _ _
      | exact spec_Small.mono _ _
      | exact spec_digit.mono _ _
      | exact LeO.none _
      | refine LeO.ite ?_ ?_
      | refine LeO.bind ?_ (fun _ => ?_)
    · intro y0 y1 y2 y3 y4 y5 y6 y7
      unfold spec_Figures.j1
      repeat' first
      | (with_reducible exact ih0 _ _ _ _ _ _)
      | (with_reducible exact ih1 _ _ _ _ _ _ _ _)
      | (with_reducible exact ih2 _ _ _ _ _ _ _)
      | (with_reducible exact ih3 _ _ _ _ _ _ _ _)
      | (with_reducible exact spec_Add.mono _ _ _)
      | (with_reducible exact spec_Mul.mono _ _ _)
      | (with_reducible exact spec_Small.mono _ _)
      | (with_reducible exact spec_digit.mono _ _)
      | (with_reducible exact LeO.refl _)
      | (with_reducible exact LeO.none _)
      | (with_reducible refine LeO.ite ?_ ?_)
      | (with_reducible refine LeO.bind ?_ (fun _ => ?_))
      | exact ih0 _ _ _ _ _ _
      | exact ih1 _ _ _ _ _ _ _ _
      | exact ih2 _ _ _ _ _ _ _
      | exact ih3 _ _ _ _ _ _ _ _
      | exact spec_Add.mono _ _ _
      | exact spec_Mul.mono _ _ _
      | exact spec_Small.mono _ _
      | exact spec_digit.mono _ _
      | exact LeO.none _
      | refine LeO.ite ?_ ?_
      | refine LeO.bind ?_ (fun _ => ?_)
    · intro y0 y1 y2 y3 y4 y5 y6
      unfold spec_Figures.j2
      repeat' first
      | (with_reducible exact ih0 _ _ _ _ _ _)
      | (with_reducible exact ih1 _ _ _ _ _ _ _ _)
      | (with_reducible exact ih2 _ _ _ _ _ _ _)
      | (with_reducible exact ih3 _ _ _ _ _ _ _ _)
      | (with_reducible exact spec_Add.mono _ _ _)
      | (with_reducible exact spec_Mul.mono _ _ _)
      | (with_reducible exact spec_Small.mono _ _)
      | (with_reducible exact spec_digit.mono _ _)
      | (with_reducible exact LeO.refl _)
      | (with_reducible exact LeO.none _)
      | (with_reducible refine LeO.ite ?_ ?_)
      | (with_reducible refine LeO.bind ?_ (fun _ => ?_))
      | exact ih0 _ _ _ _ _ _
      | exact ih1 _ _ _ _ _ _ _ _
      | exact ih2 _ _ _ _ _ _ _
      | exact ih3 _ _ _ _ _ _ _ _
      | exact spec_Add.mono _ _ _
      | exact spec_Mul.mono _ _ _
      | exact spec_Small.mono _ _
      | exact spec_digit.mono _ _
      | exact LeO.none _
      | refine LeO.ite ?_ ?_
      | refine LeO.bind ?_ (fun _ => ?_)
    · intro y0 y1 y2 y3 y4 y5 y6 y7
      unfold spec_Figures.j3
      repeat' first
      | (with_reducible exact ih0 _ _ _ _ _ _)
      | (with_reducible exact ih1 _ _ _ _ _ _ _ _)
      | (with_reducible exact ih2 _ _ _ _ _ _ _)
      | (with_reducible exact ih3 _ _ _ _ _ _ _ _)
      | (with_reducible exact spec_Add.mono _ _ _)
      | (with_reducible exact spec_Mul.mono _ _ _)
      | (with_reducible exact spec_Small.mono _ _)
      | (with_reducible exact spec_digit.mono _ _)
      | (with_reducible exact LeO.refl _)
      | (with_reducible exact LeO.none _)
      | (with_reducible refine LeO.ite ?_ ?_)
      | (with_reducible refine LeO.bind ?_ (fun _ => ?_))
      | exact ih0 _ _ _ _ _ _
      | exact ih1 _ _ _ _ _ _ _ _
      | exact ih2 _ _ _ _ _ _ _
      | exact ih3 _ _ _ _ _ _ _ _
      | exact spec_Add.mono _ _ _
      | exact spec_Mul.mono _ _ _
      | exact spec_Small.mono _ _
      | exact spec_digit.mono _ _
      | exact LeO.none _
      | refine LeO.ite ?_ ?_
      | refine LeO.bind ?_ (fun _ => ?_)
theorem spec_Figures.mono : ∀ a0 a1 a2 k, LeO (spec_Figures.f k a0 a1 a2) (spec_Figures.f (k + 1) a0 a1 a2) := by
  intro a0 a1 a2 k
  obtain ⟨ih0, ih1, ih2, ih3⟩ := spec_Figures.mono_l k
  unfold spec_Figures.f
  repeat' first
      | (with_reducible exact ih0 _ _ _ _ _ _)
      | (with_reducible exact ih1 _ _ _ _ _ _ _ _)
      | (with_reducible exact ih2 _ _ _ _ _ _ _)
      | (with_reducible exact ih3 _ _ _ _ _ _ _ _)
      | (with_reducible exact spec_Add.mono _ _ _)
      | (with_reducible exact spec_Mul.mono _ _ _)
      | (with_reducible exact spec_Small.mono _ _)
      | (with_reducible exact spec_digit.mono _ _)
      | (with_reducible exact LeO.refl _)
      | (with_reducible exact LeO.none _)
      | (with_reducible refine LeO.ite ?_ ?_)
      | (with_reducible refine LeO.bind ?_ (fun _ => ?_))
      | exact ih0 _ _ _ _ _ _
      | exact ih1 _ _ _ _ _ _ _ _
      | exact ih2 _ _ _ _ _ _ _
      | exact ih3 _ _ _ _ _ _ _ _
      | exact spec_Add.mono _ _ _
      | exact spec_Mul.mono _ _ _
      | exact spec_Small.mono _ _
      | exact spec_digit.mono _ _
      | exact LeO.none _
      | refine LeO.ite ?_ ?_
      | refine LeO.bind ?_ (fun _ => ?_)
def spec_Figures.T7 : Bool × List (List Nat × List Nat) := (true, [([], []), ([], []), ([1], [1]), ([0, 2, 2], [0, 2]), ([], []), ([], []), ([4, 5], [4, 5]), ([6, 3], [6]), ([7, 7], [7]), ([3, 8, 8], [3, 8]), ([9, 9, 0, 1, 2, 3, 4, 5, 6, 7, 8, 9], [0, 9])])
def spec_Figures.B7 : List Nat := [0, 0, 2, 7, 0, 0, 48, 127, 255, 511, 1023]
theorem spec_Figures.tab7 : rtab .any (opsOf Tryz.f11 7) = spec_Figures.T7 := by kernel_rfl
theorem spec_Figures.bits7 : waitsOk spec_Figures.T7.2 spec_Figures.B7 = true := by kernel_rfl
set_option maxHeartbeats 8000000 in
set_option maxRecDepth 100000 in
theorem spec_Figures.calls (k : Nat) (a0 : ByteArray) (a1 : Int) (a2 : Bool) (r1 : List Int) (r2 : Int) (r3 : Int) (w : World) (h : spec_Figures.f k a0 a1 a2 = some (r1, r2, r3)) :
    Calls Tryz.prog 11 #[.string a0, .int .i64 a1, .bool a2] w fun e w' => ∃ v0_ : Value, e = .returned (.tuple #[v0_, .int .i64 r2, .int .i64 r3]) ∧ Kd.V (Kd.int .i64) 3 w' w.heap.size (fun k_ => (w.heap.size ≤ k_)) v0_ r1 ∧ Below w.heap.size w w' := by
  have HB := Aside0.mk (Below.refl w.heap.size w)
  have H : (spec_Figures.l0 k a0 a1 a2 (([] : List Int)) 0 0) = some (r1, r2, r3) := h
  clear h
  obtain ⟨y202, hy202⟩ : ∃ y_ : List Int, y_ = (([] : List Int)) := ⟨_, rfl⟩
  replace H : (spec_Figures.l0 k a0 a1 a2 y202 0 0) = some (r1, r2, r3) := by first | (rw [hy202]; with_reducible exact H) | (have H2_ := (Option.bind_some _ _).symm.trans H; rw [hy202]; with_reducible exact H2_) | (have H2_ := (Option.bind_some _ _).symm.trans H; with_reducible exact H2_) | with_reducible exact H | (rw [hy202]; exact H) | exact H
  have Ny202 := Aside0.mk hy202
  clear hy202
  have H' := Aside0.mk H
  clear H
  go_enter Tryz.func11, Tryz.ntmps11
  go_wp2_with (first | ((with_reducible refine gate_dst (N := 13) rfl ?_); refine Kd.R_lit (Kd.int .i64) _ 3 ?hg (N := 13) ?hd (xs := ([] : List Int)) (inner := []) (ok := fun _ => True) (okp := fun _ => True) ?hr ?hp (fun _ hk => hk) trivial (Below.refl _ _) (Nat.le_refl _) (by simp) ?_; (case hd => rfl); (case hg => rfl); (case hr => first | (go_simp; done) | (go_simp; rfl)); (case hp => exact (Reps.none _ _)); intro v203 w4 ho5 hb hg_ hnew_; clear hg_ hnew_; (first | rw [← Ny202.out] at ho5 | (simp only [Int.reduceToNat] at ho5; rw [← Ny202.out] at ho5)); have n0_ := Aside0.mk (Kd.R_lower (Kd.R_newM (M := fun k_ => (w.heap.size ≤ k_)) ho5 (below_size (by repeat (first | (with_reducible first | exact HB.out | apply below_alloc | apply pw_below_drewN | apply below_drew1) | exact HB.out))) (fun k_ h_ => h_)) (below_size (by repeat (first | (with_reducible first | exact HB.out | apply below_alloc | apply pw_below_drewN | apply below_drew1) | exact HB.out)))); have n1_ := Aside0.mk (below_step (by repeat (first | (with_reducible first | exact HB.out | apply below_alloc | apply pw_below_drewN | apply below_drew1) | exact HB.out)) hb); clear HB; have HO204 := n0_; have HB := n1_; clear n0_ n1_; clear hb ho5))
  go_loopg [9, 10, 11] k (fun kq v9 v10 v11 w' => ∃ (x9_1 : List Int) (x10_1 : Int) (x11_1 : Int), v10 = .int .i64 x10_1 ∧ v11 = .int .i64 x11_1 ∧ Aside0 (spec_Figures.l0 kq a0 a1 a2 x9_1 x10_1 x11_1 = some (r1, r2, r3)) ∧ Aside0 (kq ≤ k) ∧ Aside0 (Kd.V (Kd.int .i64) 3 w' w.heap.size (fun k_ => (w.heap.size ≤ k_)) v9 x9_1) ∧ Aside0 (Below w.heap.size w w'))
  case atStart => exact ⟨(y202), (0), (0), (by first | rfl | (simp; done) | (simp [*]; done)), (by first | rfl | (simp; done) | (simp [*]; done)), H', ⟨Nat.le_refl _⟩, ⟨Kd.R_V (by (with_reducible repeat (first | apply Kd.R_alloc | apply Kd.R_drewN | apply Kd.R_drew)); exact Kd.R_mono HO204.out (fun _ hk => hk.1))⟩, ⟨by repeat (first | (with_reducible first | exact HB.out | apply below_alloc | apply pw_below_drewN | apply below_drew1) | exact HB.out)⟩⟩
  case round =>
    clear H'
    try clear c1
    try clear p2
    obtain ⟨x9_1, x10_1, x11_1, rfl, rfl, HA, HK1, HO_9, HB⟩ := hrel
    cases gk with
    | zero => exact absurd HA.out (by simp [spec_Figures.l0])
    | succ k1 =>
      have H := HA.out
      clear HA
      simp only [spec_Figures.l0] at H
      by_cases c6 : x11_1 < (a0.size : Int)
      · rw [if_pos c6] at H
        have c6b0 : decide (x11_1 < (a0.size : Int)) = true := decide_eq_true c6
        clear c6
        have HC7 := Aside0.mk H
        clear H
        go_upto_region 4 with (fail)
        go_cut [29] (fun v29 wc => ∃ (kq : Nat) (x29_6 : Bool), v29 = .bool x29_6 ∧ Aside0 (spec_Figures.j1 kq a0 a1 a2 x9_1 x10_1 x11_1 x11_1 x29_6 = some (r1, r2, r3)) ∧ Aside0 (kq ≤ k1) ∧ Aside0 (Kd.V (Kd.int .i64) 3 wc w.heap.size (fun k_ => (w.heap.size ≤ k_)) u9 x9_1) ∧ Aside0 (Below w.heap.size w wc))
        case first =>
          have H := HC7.out
          clear HC7
          by_cases c8 : 0 ≤ x11_1
          · rw [if_pos c8] at H
            have c8b0 : decide (0 ≤ x11_1) = true := decide_eq_true c8
            clear c8
            (first | rw [c8b0] | (simp only [i64_w, i32_w]; rw [c8b0]) | skip)
            by_cases c10 : (bt a0 x11_1) = 95
            · rw [if_pos c10] at H
              have c10b0 : ((bt a0 x11_1) == 95) = true := beq_iff_eq.mpr c10
              have c10b1 : ((bt a0 x11_1) != 95) = false := bne_eq_false_iff_eq.mpr c10
              clear c10
              by_cases c11 : x10_1 > 0
              · rw [if_pos c11] at H
                have c11b0 : decide (0 < x10_1) = true := decide_eq_true c11
                clear c11
                have H' := Aside0.mk H
                clear H
                have p9 : 0 ≤ (x11_1 : Int) := of_decide_eq_true (by first | (with_reducible assumption) | assumption)
                have q9 : x11_1 < (a0.size : Int) := of_decide_eq_true (by first | (with_reducible assumption) | assumption)
                have hx9 := bt_at a0 x11_1
                replace p9 := eq_true p9
                replace q9 := eq_true q9
                go_wp2
                go_meet
                case rel => exact ⟨_, (true), (by first | rfl | (simp; done) | (simp [*]; done)), H', ⟨by have := HK1.out; first | omega | exact Nat.le_refl _⟩, ⟨by (with_reducible repeat (first | apply Kd.V_alloc | apply Kd.V_drewN | apply Kd.V_drew)); exact HO_9.out⟩, ⟨by repeat (first | (with_reducible first | exact HB.out | apply below_alloc | apply pw_below_drewN | apply below_drew1) | exact HB.out)⟩⟩
              · rw [if_neg c11] at H
                have c11b0 : decide (0 < x10_1) = false := decide_eq_false c11
                clear c11
                have H' := Aside0.mk H
                clear H
                have p9 : 0 ≤ (x11_1 : Int) := of_decide_eq_true (by first | (with_reducible assumption) | assumption)
                have q9 : x11_1 < (a0.size : Int) := of_decide_eq_true (by first | (with_reducible assumption) | assumption)
                have hx9 := bt_at a0 x11_1
                replace p9 := eq_true p9
                replace q9 := eq_true q9
                go_wp2
                go_meet
                case rel => exact ⟨_, (a2), (by first | rfl | (simp; done) | (simp [*]; done)), H', ⟨by have := HK1.out; first | omega | exact Nat.le_refl _⟩, ⟨by (with_reducible repeat (first | apply Kd.V_alloc | apply Kd.V_drewN | apply Kd.V_drew)); exact HO_9.out⟩, ⟨by repeat (first | (with_reducible first | exact HB.out | apply below_alloc | apply pw_below_drewN | apply below_drew1) | exact HB.out)⟩⟩
            · rw [if_neg c10] at H
              have c10b0 : ((bt a0 x11_1) == 95) = false := beq_eq_false_iff_ne.mpr c10
              have c10b1 : ((bt a0 x11_1) != 95) = true := bne_iff_ne.mpr c10
              have H' := Aside0.mk H
              clear H
              have p9 : 0 ≤ (x11_1 : Int) := of_decide_eq_true (by first | (with_reducible assumption) | assumption)
              have q9 : x11_1 < (a0.size : Int) := of_decide_eq_true (by first | (with_reducible assumption) | assumption)
              have hx9 := bt_at a0 x11_1
              replace p9 := eq_true p9
              replace q9 := eq_true q9
              go_wp2
              go_meet
              case rel => exact ⟨_, (false), (by first | rfl | (simp; done) | (simp [*]; done)), H', ⟨by have := HK1.out; first | omega | exact Nat.le_refl _⟩, ⟨by (with_reducible repeat (first | apply Kd.V_alloc | apply Kd.V_drewN | apply Kd.V_drew)); exact HO_9.out⟩, ⟨by repeat (first | (with_reducible first | exact HB.out | apply below_alloc | apply pw_below_drewN | apply below_drew1) | exact HB.out)⟩⟩
          · rw [if_neg c8] at H
            exact absurd H (by simp)
        case rest =>
          clear HC7
          try clear c1
          try clear p2
          try clear c6
          try clear c6b0
          try clear c8
          try clear c8b0
          try clear p9
          try clear q9
          try clear hx9
          try clear c10
          try clear c10b0
          try clear c10b1
          try clear c11
          try clear c11b0
          try clear p2
          try clear p9
          try clear q9
          obtain ⟨kq, x29_6, rfl, HA, HJ6, HO_9, HB⟩ := hcut
          cases kq with
          | zero => exact absurd HA.out (by simp [spec_Figures.j1])
          | succ kj6 =>
            have H := HA.out
            clear HA
            simp only [spec_Figures.j1] at H
            have HC12 := Aside0.mk H
            clear H
            go_upto_if 29 with (fail)
            go_cut [12] (fun v12 wc => ∃ (kq : Nat) (x12_11 : Int), v12 = .int .i64 x12_11 ∧ Aside0 (spec_Figures.j2 kq a0 a1 a2 x9_1 x10_1 x11_1 x12_11 = some (r1, r2, r3)) ∧ Aside0 (kq ≤ kj6) ∧ Aside0 (Kd.V (Kd.int .i64) 3 wc w.heap.size (fun k_ => (w.heap.size ≤ k_)) u9 x9_1) ∧ Aside0 (Below w.heap.size w wc))
            case first =>
              have H := HC12.out
              clear HC12
              by_cases c13 : x29_6 = true
              · subst c13
                have H1 : (spec_Figures.j2 kj6 a0 a1 a2 x9_1 x10_1 x11_1 (wrap64 (x11_1 + 1))) = some (r1, r2, r3) := by rw [if_pos rfl] at H; exact H
                clear H
                have H := H1
                clear H1
                have H' := Aside0.mk H
                clear H
                go_wp2
                go_meet
                case rel => exact ⟨_, (wrap64 (x11_1 + 1)), (by first | rfl | (simp; done) | (simp [*]; done)), H', ⟨by have := HK1.out; have := HJ6.out; first | omega | exact Nat.le_refl _⟩, ⟨by (with_reducible repeat (first | apply Kd.V_alloc | apply Kd.V_drewN | apply Kd.V_drew)); exact HO_9.out⟩, ⟨by repeat (first | (with_reducible first | exact HB.out | apply below_alloc | apply pw_below_drewN | apply below_drew1) | exact HB.out)⟩⟩
              · replace c13 := Bool.eq_false_iff.mpr c13
                subst c13
                have H1 : (spec_Figures.j2 kj6 a0 a1 a2 x9_1 x10_1 x11_1 x11_1) = some (r1, r2, r3) := by rw [if_neg (show ¬ (false = true) by decide)] at H; exact H
                clear H
                have H := H1
                clear H1
                have H' := Aside0.mk H
                clear H
                go_wp2
                go_meet
                case rel => exact ⟨_, (x11_1), (by first | rfl | (simp; done) | (simp [*]; done)), H', ⟨by have := HK1.out; have := HJ6.out; first | omega | exact Nat.le_refl _⟩, ⟨by (with_reducible repeat (first | apply Kd.V_alloc | apply Kd.V_drewN | apply Kd.V_drew)); exact HO_9.out⟩, ⟨by repeat (first | (with_reducible first | exact HB.out | apply below_alloc | apply pw_below_drewN | apply below_drew1) | exact HB.out)⟩⟩
            case rest =>
              clear HC12
              try clear c1
              try clear p2
              try clear c6
              try clear c6b0
              try clear p6
              try clear c8
              try clear c8b0
              try clear p9
              try clear q9
              try clear hx9
              try clear c10
              try clear c10b0
              try clear c10b1
              try clear c11
              try clear c11b0
              try clear c13
              try clear p2
              try clear p9
              try clear q9
              obtain ⟨kq, x12_11, rfl, HA, HJ11, HO_9, HB⟩ := hcut
              cases kq with
              | zero => exact absurd HA.out (by simp [spec_Figures.j2])
              | succ kj11 =>
                have H := HA.out
                clear HA
                simp only [spec_Figures.j2] at H
                have HC14 := Aside0.mk H
                clear H
                go_upto_region 6 with (fail)
                go_cut [43] (fun v43 wc => ∃ (kq : Nat) (x43_13 : Bool), v43 = .bool x43_13 ∧ Aside0 (spec_Figures.j3 kq a0 a1 a2 x9_1 x10_1 x11_1 x12_11 x43_13 = some (r1, r2, r3)) ∧ Aside0 (kq ≤ kj11) ∧ Aside0 (Kd.V (Kd.int .i64) 3 wc w.heap.size (fun k_ => (w.heap.size ≤ k_)) u9 x9_1) ∧ Aside0 (Below w.heap.size w wc))
                case first =>
                  have H := HC14.out
                  clear HC14
                  by_cases c15 : x12_11 ≥ (a0.size : Int)
                  · rw [if_pos c15] at H
                    have c15b0 : decide ((a0.size : Int) ≤ x12_11) = true := decide_eq_true c15
                    clear c15
                    (first | rw [c15b0] | (simp only [i64_w, i32_w]; rw [c15b0]) | skip)
                    have H' := Aside0.mk H
                    clear H
                    go_wp2
                    go_meet
                    case rel => exact ⟨_, (true), (by first | rfl | (simp; done) | (simp [*]; done)), H', ⟨by have := HK1.out; have := HJ6.out; have := HJ11.out; first | omega | exact Nat.le_refl _⟩, ⟨by (with_reducible repeat (first | apply Kd.V_alloc | apply Kd.V_drewN | apply Kd.V_drew)); exact HO_9.out⟩, ⟨by repeat (first | (with_reducible first | exact HB.out | apply below_alloc | apply pw_below_drewN | apply below_drew1) | exact HB.out)⟩⟩
                  · rw [if_neg c15] at H
                    have c15b0 : decide ((a0.size : Int) ≤ x12_11) = false := decide_eq_false c15
                    clear c15
                    (first | rw [c15b0] | (simp only [i64_w, i32_w]; rw [c15b0]) | skip)
                    by_cases c16 : 0 ≤ x12_11
                    · rw [if_pos c16] at H
                      have c16b0 : decide (0 ≤ x12_11) = true := decide_eq_true c16
                      clear c16
                      by_cases c17 : x12_11 < (a0.size : Int)
                      · rw [if_pos c17] at H
                        have c17b0 : decide (x12_11 < (a0.size : Int)) = true := decide_eq_true c17
                        clear c17
                        replace H := Option.bind_eq_some_iff.mp H
                        obtain ⟨t205, A190, H⟩ := H
                        replace H : (spec_Figures.j3 kj11 a0 a1 a2 x9_1 x10_1 x11_1 x12_11 (decide (t205 ≥ a1))) = some (r1, r2, r3) := H
                        have A19 := Aside0.mk A190
                        clear A190
                        have H' := Aside0.mk H
                        clear H
                        have p18 : 0 ≤ (x12_11 : Int) := of_decide_eq_true (by first | (with_reducible assumption) | assumption)
                        have q18 : x12_11 < (a0.size : Int) := of_decide_eq_true (by first | (with_reducible assumption) | assumption)
                        have hx18 := bt_at a0 x12_11
                        replace p18 := eq_true p18
                        replace q18 := eq_true q18
                        go_wp2_with (first | (go_at_call 18; (with_reducible refine (spec_digit.calls kj11 (bt a0 x12_11) t205 _ A19.out).mono ?_); rintro e w' ⟨rfl, ⟨nd, rfl⟩⟩))
                        go_meet
                        case rel => exact ⟨_, (decide (t205 ≥ a1)), (by first | rfl | (simp; done) | (simp [*]; done)), H', ⟨by have := HK1.out; have := HJ6.out; have := HJ11.out; first | omega | exact Nat.le_refl _⟩, ⟨by (with_reducible repeat (first | apply Kd.V_alloc | apply Kd.V_drewN | apply Kd.V_drew)); exact HO_9.out⟩, ⟨by repeat (first | (with_reducible first | exact HB.out | apply below_alloc | apply pw_below_drewN | apply below_drew1) | exact HB.out)⟩⟩
                      · rw [if_neg c17] at H
                        exact absurd H (by simp)
                    · rw [if_neg c16] at H
                      exact absurd H (by simp)
                case rest =>
                  clear HC14
                  try clear c1
                  try clear p1
                  try clear q1
                  try clear hx1
                  try clear p2
                  try clear c6
                  try clear c6b0
                  try clear p6
                  try clear c8
                  try clear c8b0
                  try clear p9
                  try clear q9
                  try clear hx9
                  try clear c10
                  try clear c10b0
                  try clear c10b1
                  try clear c11
                  try clear c11b0
                  try clear c13
                  try clear c15
                  try clear c15b0
                  try clear c16
                  try clear c16b0
                  try clear c17
                  try clear c17b0
                  try clear p18
                  try clear q18
                  try clear hx18
                  try clear p18
                  try clear p2
                  try clear p6
                  try clear p9
                  try clear q18
                  try clear q9
                  obtain ⟨kq, x43_13, rfl, HA, HJ13, HO_9, HB⟩ := hcut
                  cases kq with
                  | zero => exact absurd HA.out (by simp [spec_Figures.j3])
                  | succ kj13 =>
                    have H := HA.out
                    clear HA
                    simp only [spec_Figures.j3] at H
                    by_cases c20 : x43_13 = true
                    · subst c20
                      have H1 : (some (x9_1, x10_1, x11_1)) = some (r1, r2, r3) := by rw [if_pos rfl] at H; exact H
                      clear H
                      have H := H1
                      clear H1
                      simp only [Option.some.injEq, Prod.mk.injEq] at H
                      obtain ⟨rfl, rfl, rfl⟩ := H
                      go_wp2
                      go_ret3
                      exact ⟨_, by first | rfl | (simp [errW_none, errW_some] <;> rfl) | (simp [*, errW_none, errW_some] <;> rfl), by (with_reducible repeat (first | apply Kd.V_alloc | apply Kd.V_drewN | apply Kd.V_drew)); exact HO_9.out, by repeat (first | (with_reducible first | exact HB.out | apply below_alloc | apply pw_below_drewN | apply below_drew1) | exact HB.out)⟩
                    · replace c20 := Bool.eq_false_iff.mpr c20
                      subst c20
                      have H1 : ((spec_Small.f kj13 a1).bind fun t206 => ((spec_Mul.f kj13 x9_1 t206).bind fun t209 => (if 0 ≤ x12_11 then (if x12_11 < (a0.size : Int) then ((spec_digit.f kj13 (bt a0 x12_11)).bind fun t212 => ((spec_Small.f kj13 t212).bind fun t213 => ((spec_Add.f kj13 t209 t213).bind fun t216 => (spec_Figures.l0 kj13 a0 a1 a2 t216 (wrap64 (x10_1 + 1)) (wrap64 (x12_11 + 1)))))) else (none)) else (none)))) = some (r1, r2, r3) := by rw [if_neg (show ¬ (false = true) by decide)] at H; exact H
                      clear H
                      have H := H1
                      clear H1
                      replace H := Option.bind_eq_some_iff.mp H
                      obtain ⟨t206, A210, H⟩ := H
                      replace H : ((spec_Mul.f kj13 x9_1 t206).bind fun t209 => (if 0 ≤ x12_11 then (if x12_11 < (a0.size : Int) then ((spec_digit.f kj13 (bt a0 x12_11)).bind fun t212 => ((spec_Small.f kj13 t212).bind fun t213 => ((spec_Add.f kj13 t209 t213).bind fun t216 => (spec_Figures.l0 kj13 a0 a1 a2 t216 (wrap64 (x10_1 + 1)) (wrap64 (x12_11 + 1)))))) else (none)) else (none))) = some (r1, r2, r3) := H
                      have A21 := Aside0.mk A210
                      clear A210
                      replace H := Option.bind_eq_some_iff.mp H
                      obtain ⟨t209, A220, H⟩ := H
                      replace H : (if 0 ≤ x12_11 then (if x12_11 < (a0.size : Int) then ((spec_digit.f kj13 (bt a0 x12_11)).bind fun t212 => ((spec_Small.f kj13 t212).bind fun t213 => ((spec_Add.f kj13 t209 t213).bind fun t216 => (spec_Figures.l0 kj13 a0 a1 a2 t216 (wrap64 (x10_1 + 1)) (wrap64 (x12_11 + 1)))))) else (none)) else (none)) = some (r1, r2, r3) := H
                      have A22 := Aside0.mk A220
                      clear A220
                      by_cases c23 : 0 ≤ x12_11
                      · rw [if_pos c23] at H
                        have c23b0 : decide (0 ≤ x12_11) = true := decide_eq_true c23
                        clear c23
                        by_cases c24 : x12_11 < (a0.size : Int)
                        · rw [if_pos c24] at H
                          have c24b0 : decide (x12_11 < (a0.size : Int)) = true := decide_eq_true c24
                          clear c24
                          replace H := Option.bind_eq_some_iff.mp H
                          obtain ⟨t212, A260, H⟩ := H
                          replace H : ((spec_Small.f kj13 t212).bind fun t213 => ((spec_Add.f kj13 t209 t213).bind fun t216 => (spec_Figures.l0 kj13 a0 a1 a2 t216 (wrap64 (x10_1 + 1)) (wrap64 (x12_11 + 1))))) = some (r1, r2, r3) := H
                          have A26 := Aside0.mk A260
                          clear A260
                          replace H := Option.bind_eq_some_iff.mp H
                          obtain ⟨t213, A270, H⟩ := H
                          replace H : ((spec_Add.f kj13 t209 t213).bind fun t216 => (spec_Figures.l0 kj13 a0 a1 a2 t216 (wrap64 (x10_1 + 1)) (wrap64 (x12_11 + 1)))) = some (r1, r2, r3) := H
                          have A27 := Aside0.mk A270
                          clear A270
                          replace H := Option.bind_eq_some_iff.mp H
                          obtain ⟨t216, A280, H⟩ := H
                          replace H : (spec_Figures.l0 kj13 a0 a1 a2 t216 (wrap64 (x10_1 + 1)) (wrap64 (x12_11 + 1))) = some (r1, r2, r3) := H
                          have A28 := Aside0.mk A280
                          clear A280
                          have H' := Aside0.mk H
                          clear H
                          try go_wp2
                          have n0_ := Aside0.mk (Kd.V_drew HO_9.out)
                          have n1_ := Aside0.mk (below_drew1 HB.out)
                          clear HO_9
                          clear HB
                          have HO_9 := n0_
                          have HB := n1_
                          clear n0_ n1_
                          have p25 : 0 ≤ (x12_11 : Int) := of_decide_eq_true (by first | (with_reducible assumption) | assumption)
                          have q25 : x12_11 < (a0.size : Int) := of_decide_eq_true (by first | (with_reducible assumption) | assumption)
                          have hx25 := bt_at a0 x12_11
                          replace p25 := eq_true p25
                          replace q25 := eq_true q25
                          refine start_ (n := 11) (S := fun w' => True) (ds := []) #[false, false, false, false, false, false, false, false, false, false, false] (by kernel_rfl) rfl rfl trivial (fun hHeld => ?_); refine with_tabW spec_Figures.tab7 spec_Figures.bits7 (fun HT_ HW_ => ?_)
                          generalize wc.drew = w29 at HO_9 HB hHeld ⊢
                          refine pure_ (i := 0) (N := some 44) (v := ?_) (a' := ?_) #[true, false, false, false, false, false, false, false, false, false, false] rfl rfl (any_of HT_.out (by kernel_rfl)) (fun _ _ _ h => h) (Or.inl ⟨by rfl, ?_⟩) ?_ ?_
                          rotate_left
                          · intro w'
                            go_simp
                            with_reducible rfl
                          rotate_left
                          · simp only [Act.put, List.setIfInBounds_toArray, List.set_cons_zero, List.set_cons_succ, i64_w, i32_w]
                            rfl
                          refine pure_ (i := 1) (N := some 45) (v := ?_) (a' := ?_) #[true, true, false, false, false, false, false, false, false, false, false] rfl rfl (any_of HT_.out (by kernel_rfl)) (fun _ _ _ h => h) (Or.inl ⟨by rfl, ?_⟩) ?_ ?_
                          rotate_left
                          · intro w'
                            go_simp
                            with_reducible rfl
                          rotate_left
                          · simp only [Act.put, List.setIfInBounds_toArray, List.set_cons_zero, List.set_cons_succ, i64_w, i32_w]
                            rfl
                          refine pure_ (i := 4) (N := some 48) (v := ?_) (a' := ?_) #[true, true, false, false, true, false, false, false, false, false, false] rfl rfl (any_of HT_.out (by kernel_rfl)) (fun _ _ _ h => h) (Or.inl ⟨by rfl, ?_⟩) ?_ ?_
                          rotate_left
                          · intro w'
                            go_simp
                            with_reducible rfl
                          rotate_left
                          · simp only [Act.put, List.setIfInBounds_toArray, List.set_cons_zero, List.set_cons_succ, i64_w, i32_w]
                            rfl
                          refine pure_ (i := 5) (N := some 49) (v := ?_) (a' := ?_) #[true, true, false, false, true, true, false, false, false, false, false] rfl rfl (any_of HT_.out (by kernel_rfl)) (fun _ _ _ h => h) (Or.inl ⟨by rfl, ?_⟩) ?_ ?_
                          rotate_left
                          · intro w'
                            go_simp
                            with_reducible rfl
                          rotate_left
                          · simp only [Act.put, List.setIfInBounds_toArray, List.set_cons_zero, List.set_cons_succ, i64_w, i32_w]
                            rfl
                          refine take_ (i := 6) (N := some 50) (v := ?_) (a' := ?_) #[true, true, false, false, true, true, true, false, false, false, false] rfl rfl (take_ofW HT_.out HW_.out (by kernel_rfl)) (fun _ _ _ h => h) (Or.inl ⟨by rfl, ?_⟩) hHeld ?_ ?_
                          rotate_left
                          · intro w' _
                            go_simp
                            with_reducible rfl
                          rotate_left
                          · simp only [Act.put, List.setIfInBounds_toArray, List.set_cons_zero, List.set_cons_succ, i64_w, i32_w]
                            rfl
                          refine one_ (i := 2) (N := some 46) #[true, true, true, false, true, true, true, false, false, false, false] rfl rfl (one_of HT_.out (by kernel_rfl)) (by decide) (fun K hK => ?_)
                          refine goes_ Tryz.func17 (by kernel_rfl) rfl #[.int .i64 a1] (by rfl) rfl rfl (by (try simp only [List.map_toArray, List.map_cons, List.map_nil]); first | done | rfl | (simp only [List.length_drop, List.length_take]; rfl)) ?_
                          with_reducible refine (spec_Small.calls kj13 a1 t206 _ A21.out).mono ?_
                          rintro e w30 ⟨v207, rfl, ho0, hb⟩
                          refine ⟨_, rfl, ?_⟩
                          have n0_ := Aside0.mk (Kd.V_elder' (by (with_reducible repeat (first | apply Kd.V_alloc | apply Kd.V_drewN | apply Kd.V_drew)); exact HO_9.out) (Kd.R_base ho0) hb)
                          have n1_ := Aside0.mk (Kd.R_lower (Kd.R_newM (M := fun k_ => (w.heap.size ≤ k_)) ho0 (below_size (by repeat (first | (with_reducible first | exact HB.out | apply below_alloc | apply pw_below_drewN | apply below_drew1) | exact HB.out))) (fun k_ h_ => h_)) (below_size (by repeat (first | (with_reducible first | exact HB.out | apply below_alloc | apply pw_below_drewN | apply below_drew1) | exact HB.out))))
                          have n2_ := Aside0.mk (below_step (by repeat (first | (with_reducible first | exact HB.out | apply below_alloc | apply pw_below_drewN | apply below_drew1) | exact HB.out)) hb)
                          clear HO_9
                          clear HB
                          have HO_9 := n0_
                          have HO208 := n1_
                          have HB := n2_
                          clear n0_ n1_ n2_
                          (try clear hb)
                          (try clear hb2)
                          (try clear hk)
                          (try clear hi)
                          (try clear ho0)
                          obtain ⟨Ao31, co31, eo31⟩ := Kd.V_slice HO_9.out
                          (first | subst eo31 | (injection eo31 with f1_ f2_ f3_; have f4_ := f1_.symm; have f5_ := f3_.symm; clear f1_ f2_ f3_; subst f4_; subst f5_))
                          obtain ⟨Ao32, co32, eo32⟩ := Kd.R_slice HO208.out
                          (first | subst eo32 | (injection eo32 with f1_ f2_ f3_; have f4_ := f1_.symm; have f5_ := f3_.symm; clear f1_ f2_ f3_; subst f4_; subst f5_))
                          refine hK.out _ _ trivial (fun hHeld => ?_)
                          clear hK K
                          refine norm_ (a' := ?_) ?_ ?_
                          rotate_left
                          · show Act.put _ (some 46) _ = _
                            simp only [Act.put, List.setIfInBounds_toArray, List.set_cons_zero, List.set_cons_succ, i64_w, i32_w]
                            rfl
                          refine one_ (i := 3) (N := some 47) #[true, true, true, true, true, true, true, false, false, false, false] rfl rfl (one_of HT_.out (by kernel_rfl)) (by decide) (fun K hK => ?_)
                          refine goes_ Tryz.func20 (by kernel_rfl) rfl #[.slice Ao31 x9_1.length co31, .slice Ao32 t206.length co32] (by rfl) rfl rfl (by (try simp only [List.map_toArray, List.map_cons, List.map_nil]); first | done | rfl | (simp only [List.length_drop, List.length_take]; rfl)) ?_
                          with_reducible refine (spec_Mul.calls kj13 _ _ x9_1 _ _ t206 t209 _ ?side1 ?side2 ?side3 ?side4 A22.out).mono ?_
                          (case side1 => repeat (first | exact (Kd.V_reads' HO_9.out).2.2 | (with_reducible refine Kd.C_alloc ?_ _) | (with_reducible refine Kd.C_drewN ?_ _) | (with_reducible refine Kd.C_drew ?_)))
                          (case side2 => exact (Kd.V_reads' HO_9.out).2.1)
                          (case side3 => repeat (first | exact (Kd.R_reads' HO208.out).2.2 | (with_reducible refine Kd.C_alloc ?_ _) | (with_reducible refine Kd.C_drewN ?_ _) | (with_reducible refine Kd.C_drew ?_)))
                          (case side4 => exact (Kd.R_reads' HO208.out).2.1)
                          rintro e w33 ⟨v210, rfl, ho0, hb⟩
                          refine ⟨_, rfl, ?_⟩
                          have n0_ := Aside0.mk (Kd.V_below (by (with_reducible repeat (first | apply Kd.V_alloc | apply Kd.V_drewN | apply Kd.V_drew)); exact HO_9.out) hb)
                          have n1_ := Aside0.mk (Kd.R_below (by (with_reducible repeat (first | apply Kd.R_alloc | apply Kd.R_drewN | apply Kd.R_drew)); exact HO208.out) hb)
                          have n2_ := Aside0.mk (Kd.V_lower (Kd.V_mono (ok' := fun k_ => (w.heap.size ≤ k_) ∧ some k_ ≠ (.slice Ao32 t206.length co32 : Value).ownBlock) ho0 (fun k_ hk_ => ⟨(Nat.le_trans (below_size (by repeat (first | (with_reducible first | exact HB.out | apply below_alloc | apply pw_below_drewN | apply below_drew1) | exact HB.out))) hk_), (Kd.fresh' (Kd.R_lt (by (with_reducible repeat (first | apply Kd.R_alloc | apply Kd.R_drewN | apply Kd.R_drew)); exact HO208.out)) k_ hk_)⟩)) (below_size (by repeat (first | (with_reducible first | exact HB.out | apply below_alloc | apply pw_below_drewN | apply below_drew1) | exact HB.out))))
                          have n3_ := Aside0.mk (below_step (by repeat (first | (with_reducible first | exact HB.out | apply below_alloc | apply pw_below_drewN | apply below_drew1) | exact HB.out)) hb)
                          clear HO_9
                          clear HO208
                          clear HB
                          have HO_9 := n0_
                          have HO208 := n1_
                          have HO211 := n2_
                          have HB := n3_
                          clear n0_ n1_ n2_ n3_
                          (try clear hb)
                          (try clear hb2)
                          (try clear hk)
                          (try clear hi)
                          (try clear ho0)
                          refine hK.out _ _ trivial (fun hHeld => ?_)
                          clear hK K
                          refine norm_ (a' := ?_) ?_ ?_
                          rotate_left
                          · show Act.put _ (some 47) _ = _
                            simp only [Act.put, List.setIfInBounds_toArray, List.set_cons_zero, List.set_cons_succ, i64_w, i32_w]
                            rfl
                          refine one_ (i := 7) (N := some 51) #[true, true, true, true, true, true, true, true, false, false, false] rfl rfl (one_of HT_.out (by kernel_rfl)) (by decide) (fun K hK => ?_)
                          refine goes_ Tryz.func18 (by kernel_rfl) rfl #[.int .u8 (bt a0 x12_11)] (by rfl) rfl rfl (by (try simp only [List.map_toArray, List.map_cons, List.map_nil]); first | done | rfl | (simp only [List.length_drop, List.length_take]; rfl)) ?_
                          with_reducible refine (spec_digit.calls kj13 (bt a0 x12_11) t212 _ A26.out).mono ?_
                          rintro e w' ⟨rfl, ⟨nd, rfl⟩⟩
                          refine ⟨_, rfl, ?_⟩
                          refine hK.out _ _ trivial (fun hHeld => ?_)
                          clear hK K
                          refine norm_ (a' := ?_) ?_ ?_
                          rotate_left
                          · show Act.put _ (some 51) _ = _
                            simp only [Act.put, List.setIfInBounds_toArray, List.set_cons_zero, List.set_cons_succ, i64_w, i32_w]
                            rfl
                          refine one_ (i := 8) (N := some 52) #[true, true, true, true, true, true, true, true, true, false, false] rfl rfl (one_of HT_.out (by kernel_rfl)) (by decide) (fun K hK => ?_)
                          refine goes_ Tryz.func17 (by kernel_rfl) rfl #[.int .i64 t212] (by rfl) rfl rfl (by (try simp only [List.map_toArray, List.map_cons, List.map_nil]); first | done | rfl | (simp only [List.length_drop, List.length_take]; rfl)) ?_
                          with_reducible refine (spec_Small.calls kj13 t212 t213 _ A27.out).mono ?_
                          rintro e w34 ⟨v214, rfl, ho0, hb⟩
                          refine ⟨_, rfl, ?_⟩
                          have n0_ := Aside0.mk (Kd.V_elder' (by (with_reducible repeat (first | apply Kd.V_alloc | apply Kd.V_drewN | apply Kd.V_drew)); exact HO_9.out) (Kd.R_base ho0) hb)
                          have n1_ := Aside0.mk (Kd.R_elder' (by (with_reducible repeat (first | apply Kd.R_alloc | apply Kd.R_drewN | apply Kd.R_drew)); exact HO208.out) (Kd.R_base ho0) hb)
                          have n2_ := Aside0.mk (Kd.V_elder' (by (with_reducible repeat (first | apply Kd.V_alloc | apply Kd.V_drewN | apply Kd.V_drew)); exact HO211.out) (Kd.R_base ho0) hb)
                          have n3_ := Aside0.mk (Kd.R_lower (Kd.R_new' (Kd.R_newM (M := fun k_ => (w.heap.size ≤ k_)) ho0 (below_size (by repeat (first | (with_reducible first | exact HB.out | apply below_alloc | apply pw_below_drewN | apply below_drew1) | exact HB.out))) (fun k_ h_ => h_)) (Kd.R_lt (by (with_reducible repeat (first | apply Kd.R_alloc | apply Kd.R_drewN | apply Kd.R_drew)); exact HO208.out))) (below_size (by repeat (first | (with_reducible first | exact HB.out | apply below_alloc | apply pw_below_drewN | apply below_drew1) | exact HB.out))))
                          have n4_ := Aside0.mk (below_step (by repeat (first | (with_reducible first | exact HB.out | apply below_alloc | apply pw_below_drewN | apply below_drew1) | exact HB.out)) hb)
                          clear HO_9
                          clear HO208
                          clear HO211
                          clear HB
                          have HO_9 := n0_
                          have HO208 := n1_
                          have HO211 := n2_
                          have HO215 := n3_
                          have HB := n4_
                          clear n0_ n1_ n2_ n3_ n4_
                          (try clear hb)
                          (try clear hb2)
                          (try clear hk)
                          (try clear hi)
                          (try clear ho0)
                          obtain ⟨Ao35, co35, eo35⟩ := Kd.V_slice HO211.out
                          (first | subst eo35 | (injection eo35 with f1_ f2_ f3_; have f4_ := f1_.symm; have f5_ := f3_.symm; clear f1_ f2_ f3_; subst f4_; subst f5_))
                          obtain ⟨Ao36, co36, eo36⟩ := Kd.R_slice HO215.out
                          (first | subst eo36 | (injection eo36 with f1_ f2_ f3_; have f4_ := f1_.symm; have f5_ := f3_.symm; clear f1_ f2_ f3_; subst f4_; subst f5_))
                          refine hK.out _ _ trivial (fun hHeld => ?_)
                          clear hK K
                          refine norm_ (a' := ?_) ?_ ?_
                          rotate_left
                          · show Act.put _ (some 52) _ = _
                            simp only [Act.put, List.setIfInBounds_toArray, List.set_cons_zero, List.set_cons_succ, i64_w, i32_w]
                            rfl
                          refine one_ (i := 9) (N := some 53) #[true, true, true, true, true, true, true, true, true, true, false] rfl rfl (one_of HT_.out (by kernel_rfl)) (by decide) (fun K hK => ?_)
                          refine goes_ Tryz.func19 (by kernel_rfl) rfl #[.slice Ao35 t209.length co35, .slice Ao36 t213.length co36] (by rfl) rfl rfl (by (try simp only [List.map_toArray, List.map_cons, List.map_nil]); first | done | rfl | (simp only [List.length_drop, List.length_take]; rfl)) ?_
                          with_reducible refine (spec_Add.calls kj13 _ _ t209 _ _ t213 t216 _ ?side1 ?side2 ?side3 ?side4 A28.out).mono ?_
                          (case side1 => repeat (first | exact (Kd.V_reads' HO211.out).2.2 | (with_reducible refine Kd.C_alloc ?_ _) | (with_reducible refine Kd.C_drewN ?_ _) | (with_reducible refine Kd.C_drew ?_)))
                          (case side2 => exact (Kd.V_reads' HO211.out).2.1)
                          (case side3 => repeat (first | exact (Kd.R_reads' HO215.out).2.2 | (with_reducible refine Kd.C_alloc ?_ _) | (with_reducible refine Kd.C_drewN ?_ _) | (with_reducible refine Kd.C_drew ?_)))
                          (case side4 => exact (Kd.R_reads' HO215.out).2.1)
                          rintro e w37 ⟨v217, rfl, ho0, hb⟩
                          refine ⟨_, rfl, ?_⟩
                          have n0_ := Aside0.mk (Kd.V_below (by (with_reducible repeat (first | apply Kd.V_alloc | apply Kd.V_drewN | apply Kd.V_drew)); exact HO_9.out) hb)
                          have n1_ := Aside0.mk (Kd.R_below (by (with_reducible repeat (first | apply Kd.R_alloc | apply Kd.R_drewN | apply Kd.R_drew)); exact HO208.out) hb)
                          have n2_ := Aside0.mk (Kd.V_below (by (with_reducible repeat (first | apply Kd.V_alloc | apply Kd.V_drewN | apply Kd.V_drew)); exact HO211.out) hb)
                          have n3_ := Aside0.mk (Kd.R_below (by (with_reducible repeat (first | apply Kd.R_alloc | apply Kd.R_drewN | apply Kd.R_drew)); exact HO215.out) hb)
                          have n4_ := Aside0.mk (Kd.V_lower (Kd.V_mono (ok' := fun k_ => (w.heap.size ≤ k_) ∧ some k_ ≠ (.slice Ao32 t206.length co32 : Value).ownBlock ∧ some k_ ≠ (.slice Ao36 t213.length co36 : Value).ownBlock) ho0 (fun k_ hk_ => ⟨(Nat.le_trans (below_size (by repeat (first | (with_reducible first | exact HB.out | apply below_alloc | apply pw_below_drewN | apply below_drew1) | exact HB.out))) hk_), (Kd.fresh' (Kd.R_lt (by (with_reducible repeat (first | apply Kd.R_alloc | apply Kd.R_drewN | apply Kd.R_drew)); exact HO208.out)) k_ hk_), (Kd.fresh' (Kd.R_lt (by (with_reducible repeat (first | apply Kd.R_alloc | apply Kd.R_drewN | apply Kd.R_drew)); exact HO215.out)) k_ hk_)⟩)) (below_size (by repeat (first | (with_reducible first | exact HB.out | apply below_alloc | apply pw_below_drewN | apply below_drew1) | exact HB.out))))
                          have n5_ := Aside0.mk (below_step (by repeat (first | (with_reducible first | exact HB.out | apply below_alloc | apply pw_below_drewN | apply below_drew1) | exact HB.out)) hb)
                          clear HO_9
                          clear HO208
                          clear HO211
                          clear HO215
                          clear HB
                          have HO_9 := n0_
                          have HO208 := n1_
                          have HO211 := n2_
                          have HO215 := n3_
                          have HO218 := n4_
                          have HB := n5_
                          clear n0_ n1_ n2_ n3_ n4_ n5_
                          (try clear hb)
                          (try clear hb2)
                          (try clear hk)
                          (try clear hi)
                          (try clear ho0)
                          refine hK.out _ _ trivial (fun hHeld => ?_)
                          clear hK K
                          refine norm_ (a' := ?_) ?_ ?_
                          rotate_left
                          · show Act.put _ (some 53) _ = _
                            simp only [Act.put, List.setIfInBounds_toArray, List.set_cons_zero, List.set_cons_succ, i64_w, i32_w]
                            rfl
                          refine pure_ (i := 10) (N := some 9) (v := ?_) (a' := ?_) #[true, true, true, true, true, true, true, true, true, true, true] rfl rfl (any_of HT_.out (by kernel_rfl)) (fun _ _ _ h => h) (Or.inl ⟨by rfl, ?_⟩) ?_ ?_
                          rotate_left
                          · intro w'
                            go_simp
                            with_reducible rfl
                          rotate_left
                          · simp only [Act.put, List.setIfInBounds_toArray, List.set_cons_zero, List.set_cons_succ, i64_w, i32_w]
                            rfl
                          refine done_ (done_of HT_.out (by kernel_rfl)) ?_
                          try go_wp2
                          go_roundg kj13
                          case measure => have := HK1.out; have := HJ6.out; have := HJ11.out; have := HJ13.out; omega
                          case rel => exact ⟨(t216), (wrap64 (x10_1 + 1)), (wrap64 (x12_11 + 1)), (by first | rfl | (simp; done) | (simp [*]; done)), (by first | rfl | (simp; done) | (simp [*]; done)), H', ⟨by have := HK1.out; have := HJ6.out; have := HJ11.out; have := HJ13.out; omega⟩, ⟨by (with_reducible repeat (first | apply Kd.V_alloc | apply Kd.V_drewN | apply Kd.V_drew)); exact Kd.V_mono HO218.out (fun _ hk => hk.1)⟩, ⟨by repeat (first | (with_reducible first | exact HB.out | apply below_alloc | apply pw_below_drewN | apply below_drew1) | exact HB.out)⟩⟩
                        · rw [if_neg c24] at H
                          exact absurd H (by simp)
                      · rw [if_neg c23] at H
                        exact absurd H (by simp)
      · rw [if_neg c6] at H
        have c6b0 : decide (x11_1 < (a0.size : Int)) = false := decide_eq_false c6
        clear c6
        simp only [Option.some.injEq, Prod.mk.injEq] at H
        obtain ⟨rfl, rfl, rfl⟩ := H
        go_wp2
        go_ret3
        exact ⟨_, by first | rfl | (simp [errW_none, errW_some] <;> rfl) | (simp [*, errW_none, errW_some] <;> rfl), by (with_reducible repeat (first | apply Kd.V_alloc | apply Kd.V_drewN | apply Kd.V_drew)); exact HO_9.out, by repeat (first | (with_reducible first | exact HB.out | apply below_alloc | apply pw_below_drewN | apply below_drew1) | exact HB.out)⟩

/-! ### spec_IntOf: function 5 -/
def spec_IntOf.f (k : Nat) (a0 : ByteArray) : Option (List Int × Bool) := (spec_prefix.f k a0).bind fun bt219 => (if bt219.2 = 0 then (if (a0.size : Int) > 1 then (if 0 < (a0.size : Int) then (if (bt a0 0) = 48 then (if 1 ≤ (a0.size : Int) then ((spec_Figures.f k (a0.extract 1 a0.size) 8 true).bind fun bt221 => (if bt221.2.1 > 0 then (some (bt221.1, ((wrap64 (1 + bt221.2.2)) == (a0.size : Int)))) else (some (bt221.1, false)))) else (none)) else (if 0 ≤ bt219.2 then (if bt219.2 ≤ (a0.size : Int) then ((spec_Figures.f k (a0.extract (bt219.2 : Int).toNat a0.size) bt219.1 (decide (bt219.2 > 0))).bind fun bt226 => (if bt226.2.1 > 0 then (some (bt226.1, ((wrap64 (bt219.2 + bt226.2.2)) == (a0.size : Int)))) else (some (bt226.1, false)))) else (none)) else (none))) else (none)) else (if 0 ≤ bt219.2 then (if bt219.2 ≤ (a0.size : Int) then ((spec_Figures.f k (a0.extract (bt219.2 : Int).toNat a0.size) bt219.1 (decide (bt219.2 > 0))).bind fun bt231 => (if bt231.2.1 > 0 then (some (bt231.1, ((wrap64 (bt219.2 + bt231.2.2)) == (a0.size : Int)))) else (some (bt231.1, false)))) else (none)) else (none))) else (if 0 ≤ bt219.2 then (if bt219.2 ≤ (a0.size : Int) then ((spec_Figures.f k (a0.extract (bt219.2 : Int).toNat a0.size) bt219.1 (decide (bt219.2 > 0))).bind fun bt236 => (if bt236.2.1 > 0 then (some (bt236.1, ((wrap64 (bt219.2 + bt236.2.2)) == (a0.size : Int)))) else (some (bt236.1, false)))) else (none)) else (none)))
theorem spec_IntOf.mono : ∀ a0 k, LeO (spec_IntOf.f k a0) (spec_IntOf.f (k + 1) a0) := by
  intro a0 k
  unfold spec_IntOf.f
  repeat' first
      | (with_reducible exact spec_Figures.mono _ _ _ _)
      | (with_reducible exact spec_prefix.mono _ _)
      | (with_reducible exact LeO.refl _)
      | (with_reducible exact LeO.none _)
      | (with_reducible refine LeO.ite ?_ ?_)
      | (with_reducible refine LeO.bind ?_ (fun _ => ?_))
      | exact spec_Figures.mono _ _ _ _
      | exact spec_prefix.mono _ _
      | exact LeO.none _
      | refine LeO.ite ?_ ?_
      | refine LeO.bind ?_ (fun _ => ?_)
set_option maxHeartbeats 8000000 in
set_option maxRecDepth 100000 in
theorem spec_IntOf.calls (k : Nat) (a0 : ByteArray) (r1 : List Int) (r2 : Bool) (w : World) (h : spec_IntOf.f k a0 = some (r1, r2)) :
    Calls Tryz.prog 5 #[.string a0] w fun e w' => ∃ v0_ : Value, e = .returned (.tuple #[v0_, .bool r2]) ∧ Kd.V (Kd.int .i64) 3 w' w.heap.size (fun k_ => (w.heap.size ≤ k_)) v0_ r1 ∧ Below w.heap.size w w' := by
  have HB := Aside0.mk (Below.refl w.heap.size w)
  have H : ((spec_prefix.f k a0).bind fun bt219 => (if bt219.2 = 0 then (if (a0.size : Int) > 1 then (if 0 < (a0.size : Int) then (if (bt a0 0) = 48 then (if 1 ≤ (a0.size : Int) then ((spec_Figures.f k (a0.extract 1 a0.size) 8 true).bind fun bt221 => (if bt221.2.1 > 0 then (some (bt221.1, ((wrap64 (1 + bt221.2.2)) == (a0.size : Int)))) else (some (bt221.1, false)))) else (none)) else (if 0 ≤ bt219.2 then (if bt219.2 ≤ (a0.size : Int) then ((spec_Figures.f k (a0.extract (bt219.2 : Int).toNat a0.size) bt219.1 (decide (bt219.2 > 0))).bind fun bt226 => (if bt226.2.1 > 0 then (some (bt226.1, ((wrap64 (bt219.2 + bt226.2.2)) == (a0.size : Int)))) else (some (bt226.1, false)))) else (none)) else (none))) else (none)) else (if 0 ≤ bt219.2 then (if bt219.2 ≤ (a0.size : Int) then ((spec_Figures.f k (a0.extract (bt219.2 : Int).toNat a0.size) bt219.1 (decide (bt219.2 > 0))).bind fun bt231 => (if bt231.2.1 > 0 then (some (bt231.1, ((wrap64 (bt219.2 + bt231.2.2)) == (a0.size : Int)))) else (some (bt231.1, false)))) else (none)) else (none))) else (if 0 ≤ bt219.2 then (if bt219.2 ≤ (a0.size : Int) then ((spec_Figures.f k (a0.extract (bt219.2 : Int).toNat a0.size) bt219.1 (decide (bt219.2 > 0))).bind fun bt236 => (if bt236.2.1 > 0 then (some (bt236.1, ((wrap64 (bt219.2 + bt236.2.2)) == (a0.size : Int)))) else (some (bt236.1, false)))) else (none)) else (none)))) = some (r1, r2) := h
  clear h
  replace H := Option.bind_eq_some_iff.mp H
  obtain ⟨⟨t219, t220⟩, A20, H⟩ := H
  replace H : (if t220 = 0 then (if (a0.size : Int) > 1 then (if 0 < (a0.size : Int) then (if (bt a0 0) = 48 then (if 1 ≤ (a0.size : Int) then ((spec_Figures.f k (a0.extract 1 a0.size) 8 true).bind fun bt221 => (if bt221.2.1 > 0 then (some (bt221.1, ((wrap64 (1 + bt221.2.2)) == (a0.size : Int)))) else (some (bt221.1, false)))) else (none)) else (if 0 ≤ t220 then (if t220 ≤ (a0.size : Int) then ((spec_Figures.f k (a0.extract (t220 : Int).toNat a0.size) t219 (decide (t220 > 0))).bind fun bt226 => (if bt226.2.1 > 0 then (some (bt226.1, ((wrap64 (t220 + bt226.2.2)) == (a0.size : Int)))) else (some (bt226.1, false)))) else (none)) else (none))) else (none)) else (if 0 ≤ t220 then (if t220 ≤ (a0.size : Int) then ((spec_Figures.f k (a0.extract (t220 : Int).toNat a0.size) t219 (decide (t220 > 0))).bind fun bt231 => (if bt231.2.1 > 0 then (some (bt231.1, ((wrap64 (t220 + bt231.2.2)) == (a0.size : Int)))) else (some (bt231.1, false)))) else (none)) else (none))) else (if 0 ≤ t220 then (if t220 ≤ (a0.size : Int) then ((spec_Figures.f k (a0.extract (t220 : Int).toNat a0.size) t219 (decide (t220 > 0))).bind fun bt236 => (if bt236.2.1 > 0 then (some (bt236.1, ((wrap64 (t220 + bt236.2.2)) == (a0.size : Int)))) else (some (bt236.1, false)))) else (none)) else (none))) = some (r1, r2) := H
  have A2 := Aside0.mk A20
  clear A20
  by_cases c3 : t220 = 0
  · rw [if_pos c3] at H
    have c3b0 : (t220 == 0) = true := beq_iff_eq.mpr c3
    have c3b1 : (t220 != 0) = false := bne_eq_false_iff_eq.mpr c3
    clear c3
    by_cases c4 : (a0.size : Int) > 1
    · rw [if_pos c4] at H
      have c4b0 : decide (1 < (a0.size : Int)) = true := decide_eq_true c4
      have c4b1 : decide (1 < a0.size) = true := decide_eq_true (by omega)
      clear c4
      by_cases c5 : 0 < (a0.size : Int)
      · rw [if_pos c5] at H
        have c5b0 : decide (0 < (a0.size : Int)) = true := decide_eq_true c5
        have c5b1 : decide (0 < a0.size) = true := decide_eq_true (by omega)
        clear c5
        by_cases c7 : (bt a0 0) = 48
        · rw [if_pos c7] at H
          have c7b0 : ((bt a0 0) == 48) = true := beq_iff_eq.mpr c7
          have c7b1 : ((bt a0 0) != 48) = false := bne_eq_false_iff_eq.mpr c7
          clear c7
          by_cases c8 : 1 ≤ (a0.size : Int)
          · rw [if_pos c8] at H
            have c8b0 := eq_true c8
            have c8b1 : decide (1 ≤ (a0.size : Int)) = true := decide_eq_true c8
            clear c8
            replace H := Option.bind_eq_some_iff.mp H
            obtain ⟨⟨t221, t224, t225⟩, A90, H⟩ := H
            replace H : (if t224 > 0 then (some (t221, ((wrap64 (1 + t225)) == (a0.size : Int)))) else (some (t221, false))) = some (r1, r2) := H
            have A9 := Aside0.mk A90
            clear A90
            by_cases c10 : t224 > 0
            · rw [if_pos c10] at H
              have c10b0 : decide (0 < t224) = true := decide_eq_true c10
              clear c10
              simp only [Option.some.injEq, Prod.mk.injEq] at H
              obtain ⟨rfl, rfl⟩ := H
              go_enter Tryz.func5, Tryz.ntmps5
              go_wp2_with (first | ((with_reducible refine gate_callee (f := 10) rfl ?_); refine goesL_ (some 12) rfl rfl Tryz.func10 (by kernel_rfl) rfl #[.string a0] rfl (by (try simp only [List.map_toArray, List.map_cons, List.map_nil]); first | done | rfl | (simp only [List.length_drop, List.length_take]; rfl)) ?_; (with_reducible refine (spec_prefix.calls k a0 t219 t220 _ A2.out).mono ?_); rintro e w' ⟨rfl, ⟨nd, rfl⟩⟩; refine ⟨_, rfl, ?_⟩; have p6 : 0 ≤ (0 : Int) := (by omega); have q6 : 0 < a0.size := (by have : (0 : Int) < (a0.size : Int) := of_decide_eq_true (by first | (with_reducible assumption) | assumption); omega); have hx6 : ∀ h : 0 < a0.size, ((a0[0]'h).toNat : Int) = bt a0 0 := bt_at a0 0; clear p6; have qi6 : (0 < (a0.size : Int)) = True := eq_true (of_decide_eq_true (by first | (with_reducible assumption) | assumption)); replace q6 := eq_true q6) | ((with_reducible refine gate_callee (f := 11) rfl ?_); refine goesL_ (some 35) rfl rfl Tryz.func11 (by kernel_rfl) rfl #[.string (a0.extract 1 a0.size), .int .i64 8, .bool true] rfl (by (try simp only [List.map_toArray, List.map_cons, List.map_nil]); first | done | rfl | (simp only [List.length_drop, List.length_take]; rfl)) ?_; (with_reducible refine (spec_Figures.calls k (a0.extract 1 a0.size) 8 true t221 t224 t225 _ A9.out).mono ?_); rintro e w11 ⟨v222, rfl, ho0, hb⟩; refine ⟨_, rfl, ?_⟩; have n0_ := Aside0.mk (Kd.V_lower (Kd.V_mono (ok' := fun k_ => (w.heap.size ≤ k_)) ho0 (fun k_ hk_ => (Nat.le_trans (below_size (by repeat (first | (with_reducible first | exact HB.out | apply below_alloc | apply pw_below_drewN | apply below_drew1) | exact HB.out))) hk_))) (below_size (by repeat (first | (with_reducible first | exact HB.out | apply below_alloc | apply pw_below_drewN | apply below_drew1) | exact HB.out)))); have n1_ := Aside0.mk (below_step (by repeat (first | (with_reducible first | exact HB.out | apply below_alloc | apply pw_below_drewN | apply below_drew1) | exact HB.out)) hb); clear HB; have HO223 := n0_; have HB := n1_; clear n0_ n1_; (try clear hb); (try clear hb2); (try clear hk); (try clear hi); (try clear ho0)))
              go_ret2
              exact ⟨_, by first | rfl | (simp [errW_none, errW_some] <;> rfl) | (simp [*, errW_none, errW_some] <;> rfl), by (with_reducible repeat (first | apply Kd.V_alloc | apply Kd.V_drewN | apply Kd.V_drew)); exact HO223.out, by repeat (first | (with_reducible first | exact HB.out | apply below_alloc | apply pw_below_drewN | apply below_drew1) | exact HB.out)⟩
            · rw [if_neg c10] at H
              have c10b0 : decide (0 < t224) = false := decide_eq_false c10
              clear c10
              simp only [Option.some.injEq, Prod.mk.injEq] at H
              obtain ⟨rfl, rfl⟩ := H
              go_enter Tryz.func5, Tryz.ntmps5
              go_wp2_with (first | ((with_reducible refine gate_callee (f := 10) rfl ?_); refine goesL_ (some 12) rfl rfl Tryz.func10 (by kernel_rfl) rfl #[.string a0] rfl (by (try simp only [List.map_toArray, List.map_cons, List.map_nil]); first | done | rfl | (simp only [List.length_drop, List.length_take]; rfl)) ?_; (with_reducible refine (spec_prefix.calls k a0 t219 t220 _ A2.out).mono ?_); rintro e w' ⟨rfl, ⟨nd, rfl⟩⟩; refine ⟨_, rfl, ?_⟩; have p6 : 0 ≤ (0 : Int) := (by omega); have q6 : 0 < a0.size := (by have : (0 : Int) < (a0.size : Int) := of_decide_eq_true (by first | (with_reducible assumption) | assumption); omega); have hx6 : ∀ h : 0 < a0.size, ((a0[0]'h).toNat : Int) = bt a0 0 := bt_at a0 0; clear p6; have qi6 : (0 < (a0.size : Int)) = True := eq_true (of_decide_eq_true (by first | (with_reducible assumption) | assumption)); replace q6 := eq_true q6) | ((with_reducible refine gate_callee (f := 11) rfl ?_); refine goesL_ (some 35) rfl rfl Tryz.func11 (by kernel_rfl) rfl #[.string (a0.extract 1 a0.size), .int .i64 8, .bool true] rfl (by (try simp only [List.map_toArray, List.map_cons, List.map_nil]); first | done | rfl | (simp only [List.length_drop, List.length_take]; rfl)) ?_; (with_reducible refine (spec_Figures.calls k (a0.extract 1 a0.size) 8 true t221 t224 t225 _ A9.out).mono ?_); rintro e w12 ⟨v222, rfl, ho0, hb⟩; refine ⟨_, rfl, ?_⟩; have n0_ := Aside0.mk (Kd.V_lower (Kd.V_mono (ok' := fun k_ => (w.heap.size ≤ k_)) ho0 (fun k_ hk_ => (Nat.le_trans (below_size (by repeat (first | (with_reducible first | exact HB.out | apply below_alloc | apply pw_below_drewN | apply below_drew1) | exact HB.out))) hk_))) (below_size (by repeat (first | (with_reducible first | exact HB.out | apply below_alloc | apply pw_below_drewN | apply below_drew1) | exact HB.out)))); have n1_ := Aside0.mk (below_step (by repeat (first | (with_reducible first | exact HB.out | apply below_alloc | apply pw_below_drewN | apply below_drew1) | exact HB.out)) hb); clear HB; have HO223 := n0_; have HB := n1_; clear n0_ n1_; (try clear hb); (try clear hb2); (try clear hk); (try clear hi); (try clear ho0)))
              go_ret2
              exact ⟨_, by first | rfl | (simp [errW_none, errW_some] <;> rfl) | (simp [*, errW_none, errW_some] <;> rfl), by (with_reducible repeat (first | apply Kd.V_alloc | apply Kd.V_drewN | apply Kd.V_drew)); exact HO223.out, by repeat (first | (with_reducible first | exact HB.out | apply below_alloc | apply pw_below_drewN | apply below_drew1) | exact HB.out)⟩
          · rw [if_neg c8] at H
            exact absurd H (by simp)
        · rw [if_neg c7] at H
          have c7b0 : ((bt a0 0) == 48) = false := beq_eq_false_iff_ne.mpr c7
          have c7b1 : ((bt a0 0) != 48) = true := bne_iff_ne.mpr c7
          by_cases c13 : 0 ≤ t220
          · rw [if_pos c13] at H
            have c13b0 := eq_true c13
            have c13b1 : decide (0 ≤ t220) = true := decide_eq_true c13
            clear c13
            by_cases c14 : t220 ≤ (a0.size : Int)
            · rw [if_pos c14] at H
              have c14b0 := eq_true c14
              have c14b1 : decide (t220 ≤ (a0.size : Int)) = true := decide_eq_true c14
              clear c14
              replace H := Option.bind_eq_some_iff.mp H
              obtain ⟨⟨t226, t229, t230⟩, A150, H⟩ := H
              replace H : (if t229 > 0 then (some (t226, ((wrap64 (t220 + t230)) == (a0.size : Int)))) else (some (t226, false))) = some (r1, r2) := H
              have A15 := Aside0.mk A150
              clear A150
              by_cases c16 : t229 > 0
              · rw [if_pos c16] at H
                have c16b0 : decide (0 < t229) = true := decide_eq_true c16
                clear c16
                simp only [Option.some.injEq, Prod.mk.injEq] at H
                obtain ⟨rfl, rfl⟩ := H
                go_enter Tryz.func5, Tryz.ntmps5
                go_wp2_with (first | ((with_reducible refine gate_callee (f := 10) rfl ?_); refine goesL_ (some 12) rfl rfl Tryz.func10 (by kernel_rfl) rfl #[.string a0] rfl (by (try simp only [List.map_toArray, List.map_cons, List.map_nil]); first | done | rfl | (simp only [List.length_drop, List.length_take]; rfl)) ?_; (with_reducible refine (spec_prefix.calls k a0 t219 t220 _ A2.out).mono ?_); rintro e w' ⟨rfl, ⟨nd, rfl⟩⟩; refine ⟨_, rfl, ?_⟩; have p6 : 0 ≤ (0 : Int) := (by omega); have q6 : 0 < a0.size := (by have : (0 : Int) < (a0.size : Int) := of_decide_eq_true (by first | (with_reducible assumption) | assumption); omega); have hx6 : ∀ h : 0 < a0.size, ((a0[0]'h).toNat : Int) = bt a0 0 := bt_at a0 0; clear p6; have qi6 : (0 < (a0.size : Int)) = True := eq_true (of_decide_eq_true (by first | (with_reducible assumption) | assumption)); replace q6 := eq_true q6) | ((with_reducible refine gate_callee (f := 11) rfl ?_); refine goesL_ (some 35) rfl rfl Tryz.func11 (by kernel_rfl) rfl #[.string (a0.extract (t220 : Int).toNat a0.size), .int .i64 t219, .bool (decide (t220 > 0))] rfl (by (try simp only [List.map_toArray, List.map_cons, List.map_nil]); first | done | rfl | (simp only [List.length_drop, List.length_take]; rfl)) ?_; (with_reducible refine (spec_Figures.calls k (a0.extract (t220 : Int).toNat a0.size) t219 (decide (t220 > 0)) t226 t229 t230 _ A15.out).mono ?_); rintro e w17 ⟨v227, rfl, ho0, hb⟩; refine ⟨_, rfl, ?_⟩; have n0_ := Aside0.mk (Kd.V_lower (Kd.V_mono (ok' := fun k_ => (w.heap.size ≤ k_)) ho0 (fun k_ hk_ => (Nat.le_trans (below_size (by repeat (first | (with_reducible first | exact HB.out | apply below_alloc | apply pw_below_drewN | apply below_drew1) | exact HB.out))) hk_))) (below_size (by repeat (first | (with_reducible first | exact HB.out | apply below_alloc | apply pw_below_drewN | apply below_drew1) | exact HB.out)))); have n1_ := Aside0.mk (below_step (by repeat (first | (with_reducible first | exact HB.out | apply below_alloc | apply pw_below_drewN | apply below_drew1) | exact HB.out)) hb); clear HB; have HO228 := n0_; have HB := n1_; clear n0_ n1_; (try clear hb); (try clear hb2); (try clear hk); (try clear hi); (try clear ho0)))
                go_ret2
                exact ⟨_, by first | rfl | (simp [errW_none, errW_some] <;> rfl) | (simp [*, errW_none, errW_some] <;> rfl), by (with_reducible repeat (first | apply Kd.V_alloc | apply Kd.V_drewN | apply Kd.V_drew)); exact HO228.out, by repeat (first | (with_reducible first | exact HB.out | apply below_alloc | apply pw_below_drewN | apply below_drew1) | exact HB.out)⟩
              · rw [if_neg c16] at H
                have c16b0 : decide (0 < t229) = false := decide_eq_false c16
                clear c16
                simp only [Option.some.injEq, Prod.mk.injEq] at H
                obtain ⟨rfl, rfl⟩ := H
                go_enter Tryz.func5, Tryz.ntmps5
                go_wp2_with (first | ((with_reducible refine gate_callee (f := 10) rfl ?_); refine goesL_ (some 12) rfl rfl Tryz.func10 (by kernel_rfl) rfl #[.string a0] rfl (by (try simp only [List.map_toArray, List.map_cons, List.map_nil]); first | done | rfl | (simp only [List.length_drop, List.length_take]; rfl)) ?_; (with_reducible refine (spec_prefix.calls k a0 t219 t220 _ A2.out).mono ?_); rintro e w' ⟨rfl, ⟨nd, rfl⟩⟩; refine ⟨_, rfl, ?_⟩; have p6 : 0 ≤ (0 : Int) := (by omega); have q6 : 0 < a0.size := (by have : (0 : Int) < (a0.size : Int) := of_decide_eq_true (by first | (with_reducible assumption) | assumption); omega); have hx6 : ∀ h : 0 < a0.size, ((a0[0]'h).toNat : Int) = bt a0 0 := bt_at a0 0; clear p6; have qi6 : (0 < (a0.size : Int)) = True := eq_true (of_decide_eq_true (by first | (with_reducible assumption) | assumption)); replace q6 := eq_true q6) | ((with_reducible refine gate_callee (f := 11) rfl ?_); refine goesL_ (some 35) rfl rfl Tryz.func11 (by kernel_rfl) rfl #[.string (a0.extract (t220 : Int).toNat a0.size), .int .i64 t219, .bool (decide (t220 > 0))] rfl (by (try simp only [List.map_toArray, List.map_cons, List.map_nil]); first | done | rfl | (simp only [List.length_drop, List.length_take]; rfl)) ?_; (with_reducible refine (spec_Figures.calls k (a0.extract (t220 : Int).toNat a0.size) t219 (decide (t220 > 0)) t226 t229 t230 _ A15.out).mono ?_); rintro e w18 ⟨v227, rfl, ho0, hb⟩; refine ⟨_, rfl, ?_⟩; have n0_ := Aside0.mk (Kd.V_lower (Kd.V_mono (ok' := fun k_ => (w.heap.size ≤ k_)) ho0 (fun k_ hk_ => (Nat.le_trans (below_size (by repeat (first | (with_reducible first | exact HB.out | apply below_alloc | apply pw_below_drewN | apply below_drew1) | exact HB.out))) hk_))) (below_size (by repeat (first | (with_reducible first | exact HB.out | apply below_alloc | apply pw_below_drewN | apply below_drew1) | exact HB.out)))); have n1_ := Aside0.mk (below_step (by repeat (first | (with_reducible first | exact HB.out | apply below_alloc | apply pw_below_drewN | apply below_drew1) | exact HB.out)) hb); clear HB; have HO228 := n0_; have HB := n1_; clear n0_ n1_; (try clear hb); (try clear hb2); (try clear hk); (try clear hi); (try clear ho0)))
                go_ret2
                exact ⟨_, by first | rfl | (simp [errW_none, errW_some] <;> rfl) | (simp [*, errW_none, errW_some] <;> rfl), by (with_reducible repeat (first | apply Kd.V_alloc | apply Kd.V_drewN | apply Kd.V_drew)); exact HO228.out, by repeat (first | (with_reducible first | exact HB.out | apply below_alloc | apply pw_below_drewN | apply below_drew1) | exact HB.out)⟩
            · rw [if_neg c14] at H
              exact absurd H (by simp)
          · rw [if_neg c13] at H
            exact absurd H (by simp)
      · rw [if_neg c5] at H
        exact absurd H (by simp)
    · rw [if_neg c4] at H
      have c4b0 : decide (1 < (a0.size : Int)) = false := decide_eq_false c4
      have c4b1 : decide (1 < a0.size) = false := decide_eq_false (by omega)
      clear c4
      by_cases c19 : 0 ≤ t220
      · rw [if_pos c19] at H
        have c19b0 := eq_true c19
        have c19b1 : decide (0 ≤ t220) = true := decide_eq_true c19
        clear c19
        by_cases c20 : t220 ≤ (a0.size : Int)
        · rw [if_pos c20] at H
          have c20b0 := eq_true c20
          have c20b1 : decide (t220 ≤ (a0.size : Int)) = true := decide_eq_true c20
          clear c20
          replace H := Option.bind_eq_some_iff.mp H
          obtain ⟨⟨t231, t234, t235⟩, A210, H⟩ := H
          replace H : (if t234 > 0 then (some (t231, ((wrap64 (t220 + t235)) == (a0.size : Int)))) else (some (t231, false))) = some (r1, r2) := H
          have A21 := Aside0.mk A210
          clear A210
          by_cases c22 : t234 > 0
          · rw [if_pos c22] at H
            have c22b0 : decide (0 < t234) = true := decide_eq_true c22
            clear c22
            simp only [Option.some.injEq, Prod.mk.injEq] at H
            obtain ⟨rfl, rfl⟩ := H
            go_enter Tryz.func5, Tryz.ntmps5
            go_wp2_with (first | ((with_reducible refine gate_callee (f := 10) rfl ?_); refine goesL_ (some 12) rfl rfl Tryz.func10 (by kernel_rfl) rfl #[.string a0] rfl (by (try simp only [List.map_toArray, List.map_cons, List.map_nil]); first | done | rfl | (simp only [List.length_drop, List.length_take]; rfl)) ?_; (with_reducible refine (spec_prefix.calls k a0 t219 t220 _ A2.out).mono ?_); rintro e w' ⟨rfl, ⟨nd, rfl⟩⟩; refine ⟨_, rfl, ?_⟩) | ((with_reducible refine gate_callee (f := 11) rfl ?_); refine goesL_ (some 35) rfl rfl Tryz.func11 (by kernel_rfl) rfl #[.string (a0.extract (t220 : Int).toNat a0.size), .int .i64 t219, .bool (decide (t220 > 0))] rfl (by (try simp only [List.map_toArray, List.map_cons, List.map_nil]); first | done | rfl | (simp only [List.length_drop, List.length_take]; rfl)) ?_; (with_reducible refine (spec_Figures.calls k (a0.extract (t220 : Int).toNat a0.size) t219 (decide (t220 > 0)) t231 t234 t235 _ A21.out).mono ?_); rintro e w23 ⟨v232, rfl, ho0, hb⟩; refine ⟨_, rfl, ?_⟩; have n0_ := Aside0.mk (Kd.V_lower (Kd.V_mono (ok' := fun k_ => (w.heap.size ≤ k_)) ho0 (fun k_ hk_ => (Nat.le_trans (below_size (by repeat (first | (with_reducible first | exact HB.out | apply below_alloc | apply pw_below_drewN | apply below_drew1) | exact HB.out))) hk_))) (below_size (by repeat (first | (with_reducible first | exact HB.out | apply below_alloc | apply pw_below_drewN | apply below_drew1) | exact HB.out)))); have n1_ := Aside0.mk (below_step (by repeat (first | (with_reducible first | exact HB.out | apply below_alloc | apply pw_below_drewN | apply below_drew1) | exact HB.out)) hb); clear HB; have HO233 := n0_; have HB := n1_; clear n0_ n1_; (try clear hb); (try clear hb2); (try clear hk); (try clear hi); (try clear ho0)))
            go_ret2
            exact ⟨_, by first | rfl | (simp [errW_none, errW_some] <;> rfl) | (simp [*, errW_none, errW_some] <;> rfl), by (with_reducible repeat (first | apply Kd.V_alloc | apply Kd.V_drewN | apply Kd.V_drew)); exact HO233.out, by repeat (first | (with_reducible first | exact HB.out | apply below_alloc | apply pw_below_drewN | apply below_drew1) | exact HB.out)⟩
          · rw [if_neg c22] at H
            have c22b0 : decide (0 < t234) = false := decide_eq_false c22
            clear c22
            simp only [Option.some.injEq, Prod.mk.injEq] at H
            obtain ⟨rfl, rfl⟩ := H
            go_enter Tryz.func5, Tryz.ntmps5
            go_wp2_with (first | ((with_reducible refine gate_callee (f := 10) rfl ?_); refine goesL_ (some 12) rfl rfl Tryz.func10 (by kernel_rfl) rfl #[.string a0] rfl (by (try simp only [List.map_toArray, List.map_cons, List.map_nil]); first | done | rfl | (simp only [List.length_drop, List.length_take]; rfl)) ?_; (with_reducible refine (spec_prefix.calls k a0 t219 t220 _ A2.out).mono ?_); rintro e w' ⟨rfl, ⟨nd, rfl⟩⟩; refine ⟨_, rfl, ?_⟩) | ((with_reducible refine gate_callee (f := 11) rfl ?_); refine goesL_ (some 35) rfl rfl Tryz.func11 (by kernel_rfl) rfl #[.string (a0.extract (t220 : Int).toNat a0.size), .int .i64 t219, .bool (decide (t220 > 0))] rfl (by (try simp only [List.map_toArray, List.map_cons, List.map_nil]); first | done | rfl | (simp only [List.length_drop, List.length_take]; rfl)) ?_; (with_reducible refine (spec_Figures.calls k (a0.extract (t220 : Int).toNat a0.size) t219 (decide (t220 > 0)) t231 t234 t235 _ A21.out).mono ?_); rintro e w24 ⟨v232, rfl, ho0, hb⟩; refine ⟨_, rfl, ?_⟩; have n0_ := Aside0.mk (Kd.V_lower (Kd.V_mono (ok' := fun k_ => (w.heap.size ≤ k_)) ho0 (fun k_ hk_ => (Nat.le_trans (below_size (by repeat (first | (with_reducible first | exact HB.out | apply below_alloc | apply pw_below_drewN | apply below_drew1) | exact HB.out))) hk_))) (below_size (by repeat (first | (with_reducible first | exact HB.out | apply below_alloc | apply pw_below_drewN | apply below_drew1) | exact HB.out)))); have n1_ := Aside0.mk (below_step (by repeat (first | (with_reducible first | exact HB.out | apply below_alloc | apply pw_below_drewN | apply below_drew1) | exact HB.out)) hb); clear HB; have HO233 := n0_; have HB := n1_; clear n0_ n1_; (try clear hb); (try clear hb2); (try clear hk); (try clear hi); (try clear ho0)))
            go_ret2
            exact ⟨_, by first | rfl | (simp [errW_none, errW_some] <;> rfl) | (simp [*, errW_none, errW_some] <;> rfl), by (with_reducible repeat (first | apply Kd.V_alloc | apply Kd.V_drewN | apply Kd.V_drew)); exact HO233.out, by repeat (first | (with_reducible first | exact HB.out | apply below_alloc | apply pw_below_drewN | apply below_drew1) | exact HB.out)⟩
        · rw [if_neg c20] at H
          exact absurd H (by simp)
      · rw [if_neg c19] at H
        exact absurd H (by simp)
  · rw [if_neg c3] at H
    have c3b0 : (t220 == 0) = false := beq_eq_false_iff_ne.mpr c3
    have c3b1 : (t220 != 0) = true := bne_iff_ne.mpr c3
    by_cases c25 : 0 ≤ t220
    · rw [if_pos c25] at H
      have c25b0 := eq_true c25
      have c25b1 : decide (0 ≤ t220) = true := decide_eq_true c25
      clear c25
      by_cases c26 : t220 ≤ (a0.size : Int)
      · rw [if_pos c26] at H
        have c26b0 := eq_true c26
        have c26b1 : decide (t220 ≤ (a0.size : Int)) = true := decide_eq_true c26
        clear c26
        replace H := Option.bind_eq_some_iff.mp H
        obtain ⟨⟨t236, t239, t240⟩, A270, H⟩ := H
        replace H : (if t239 > 0 then (some (t236, ((wrap64 (t220 + t240)) == (a0.size : Int)))) else (some (t236, false))) = some (r1, r2) := H
        have A27 := Aside0.mk A270
        clear A270
        by_cases c28 : t239 > 0
        · rw [if_pos c28] at H
          have c28b0 : decide (0 < t239) = true := decide_eq_true c28
          clear c28
          simp only [Option.some.injEq, Prod.mk.injEq] at H
          obtain ⟨rfl, rfl⟩ := H
          go_enter Tryz.func5, Tryz.ntmps5
          go_wp2_with (first | ((with_reducible refine gate_callee (f := 10) rfl ?_); refine goesL_ (some 12) rfl rfl Tryz.func10 (by kernel_rfl) rfl #[.string a0] rfl (by (try simp only [List.map_toArray, List.map_cons, List.map_nil]); first | done | rfl | (simp only [List.length_drop, List.length_take]; rfl)) ?_; (with_reducible refine (spec_prefix.calls k a0 t219 t220 _ A2.out).mono ?_); rintro e w' ⟨rfl, ⟨nd, rfl⟩⟩; refine ⟨_, rfl, ?_⟩) | ((with_reducible refine gate_callee (f := 11) rfl ?_); refine goesL_ (some 35) rfl rfl Tryz.func11 (by kernel_rfl) rfl #[.string (a0.extract (t220 : Int).toNat a0.size), .int .i64 t219, .bool (decide (t220 > 0))] rfl (by (try simp only [List.map_toArray, List.map_cons, List.map_nil]); first | done | rfl | (simp only [List.length_drop, List.length_take]; rfl)) ?_; (with_reducible refine (spec_Figures.calls k (a0.extract (t220 : Int).toNat a0.size) t219 (decide (t220 > 0)) t236 t239 t240 _ A27.out).mono ?_); rintro e w29 ⟨v237, rfl, ho0, hb⟩; refine ⟨_, rfl, ?_⟩; have n0_ := Aside0.mk (Kd.V_lower (Kd.V_mono (ok' := fun k_ => (w.heap.size ≤ k_)) ho0 (fun k_ hk_ => (Nat.le_trans (below_size (by repeat (first | (with_reducible first | exact HB.out | apply below_alloc | apply pw_below_drewN | apply below_drew1) | exact HB.out))) hk_))) (below_size (by repeat (first | (with_reducible first | exact HB.out | apply below_alloc | apply pw_below_drewN | apply below_drew1) | exact HB.out)))); have n1_ := Aside0.mk (below_step (by repeat (first | (with_reducible first | exact HB.out | apply below_alloc | apply pw_below_drewN | apply below_drew1) | exact HB.out)) hb); clear HB; have HO238 := n0_; have HB := n1_; clear n0_ n1_; (try clear hb); (try clear hb2); (try clear hk); (try clear hi); (try clear ho0)))
          go_ret2
          exact ⟨_, by first | rfl | (simp [errW_none, errW_some] <;> rfl) | (simp [*, errW_none, errW_some] <;> rfl), by (with_reducible repeat (first | apply Kd.V_alloc | apply Kd.V_drewN | apply Kd.V_drew)); exact HO238.out, by repeat (first | (with_reducible first | exact HB.out | apply below_alloc | apply pw_below_drewN | apply below_drew1) | exact HB.out)⟩
        · rw [if_neg c28] at H
          have c28b0 : decide (0 < t239) = false := decide_eq_false c28
          clear c28
          simp only [Option.some.injEq, Prod.mk.injEq] at H
          obtain ⟨rfl, rfl⟩ := H
          go_enter Tryz.func5, Tryz.ntmps5
          go_wp2_with (first | ((with_reducible refine gate_callee (f := 10) rfl ?_); refine goesL_ (some 12) rfl rfl Tryz.func10 (by kernel_rfl) rfl #[.string a0] rfl (by (try simp only [List.map_toArray, List.map_cons, List.map_nil]); first | done | rfl | (simp only [List.length_drop, List.length_take]; rfl)) ?_; (with_reducible refine (spec_prefix.calls k a0 t219 t220 _ A2.out).mono ?_); rintro e w' ⟨rfl, ⟨nd, rfl⟩⟩; refine ⟨_, rfl, ?_⟩) | ((with_reducible refine gate_callee (f := 11) rfl ?_); refine goesL_ (some 35) rfl rfl Tryz.func11 (by kernel_rfl) rfl #[.string (a0.extract (t220 : Int).toNat a0.size), .int .i64 t219, .bool (decide (t220 > 0))] rfl (by (try simp only [List.map_toArray, List.map_cons, List.map_nil]); first | done | rfl | (simp only [List.length_drop, List.length_take]; rfl)) ?_; (with_reducible refine (spec_Figures.calls k (a0.extract (t220 : Int).toNat a0.size) t219 (decide (t220 > 0)) t236 t239 t240 _ A27.out).mono ?_); rintro e w30 ⟨v237, rfl, ho0, hb⟩; refine ⟨_, rfl, ?_⟩; have n0_ := Aside0.mk (Kd.V_lower (Kd.V_mono (ok' := fun k_ => (w.heap.size ≤ k_)) ho0 (fun k_ hk_ => (Nat.le_trans (below_size (by repeat (first | (with_reducible first | exact HB.out | apply below_alloc | apply pw_below_drewN | apply below_drew1) | exact HB.out))) hk_))) (below_size (by repeat (first | (with_reducible first | exact HB.out | apply below_alloc | apply pw_below_drewN | apply below_drew1) | exact HB.out)))); have n1_ := Aside0.mk (below_step (by repeat (first | (with_reducible first | exact HB.out | apply below_alloc | apply pw_below_drewN | apply below_drew1) | exact HB.out)) hb); clear HB; have HO238 := n0_; have HB := n1_; clear n0_ n1_; (try clear hb); (try clear hb2); (try clear hk); (try clear hi); (try clear ho0)))
          go_ret2
          exact ⟨_, by first | rfl | (simp [errW_none, errW_some] <;> rfl) | (simp [*, errW_none, errW_some] <;> rfl), by (with_reducible repeat (first | apply Kd.V_alloc | apply Kd.V_drewN | apply Kd.V_drew)); exact HO238.out, by repeat (first | (with_reducible first | exact HB.out | apply below_alloc | apply pw_below_drewN | apply below_drew1) | exact HB.out)⟩
      · rw [if_neg c26] at H
        exact absurd H (by simp)
    · rw [if_neg c25] at H
      exact absurd H (by simp)

/-! ### bigall_pow: function 131 -/
def bigall_pow.l0 : Nat → Int → Int → Int → Option (Int)
  | 0, _, _, _ => none
  | k + 1, x0, x1, x4 => if x1 > 0 then (if (Go.bits .and .i64 x1 1) = 0 then (bigall_pow.l0 k (IntKind.u64.wrap (x0 * x0)) (x1 / 2) x4) else (bigall_pow.l0 k (IntKind.u64.wrap (x0 * x0)) (x1 / 2) (IntKind.u64.wrap (x4 * x0)))) else (some x4)
def bigall_pow.f (k : Nat) (a0 : Int) (a1 : Int) : Option (Int) := bigall_pow.l0 k a0 a1 1
theorem bigall_pow.mono_l : ∀ k, (∀ y0 y1 y2, LeO (bigall_pow.l0 k y0 y1 y2) (bigall_pow.l0 (k + 1) y0 y1 y2))
  | 0 => fun _ _ _ r h => by simp [bigall_pow.l0] at h
  | k + 1 => by
    have ih0 := bigall_pow.mono_l k
    · intro y0 y1 y2
      unfold bigall_pow.l0
      repeat' first
      | (with_reducible exact ih0 _ _ _)
      | (with_reducible exact LeO.refl _)
      | (with_reducible exact LeO.none _)
      | (with_reducible refine LeO.ite ?_ ?_)
      | (with_reducible refine LeO.bind ?_ (fun _ => ?_))
      | exact ih0 _ _ _
      | exact LeO.none _
      | refine LeO.ite ?_ ?_
      | refine LeO.bind ?_ (fun _ => ?_)
theorem bigall_pow.mono : ∀ a0 a1 k, LeO (bigall_pow.f k a0 a1) (bigall_pow.f (k + 1) a0 a1) := by
  intro a0 a1 k
  have ih0 := bigall_pow.mono_l k
  unfold bigall_pow.f
  repeat' first
      | (with_reducible exact ih0 _ _ _)
      | (with_reducible exact LeO.refl _)
      | (with_reducible exact LeO.none _)
      | (with_reducible refine LeO.ite ?_ ?_)
      | (with_reducible refine LeO.bind ?_ (fun _ => ?_))
      | exact ih0 _ _ _
      | exact LeO.none _
      | refine LeO.ite ?_ ?_
      | refine LeO.bind ?_ (fun _ => ?_)
set_option maxHeartbeats 8000000 in
set_option maxRecDepth 100000 in
theorem bigall_pow.calls (k : Nat) (a0 : Int) (a1 : Int) (r : Int) (w : World) (h : bigall_pow.f k a0 a1 = some r) :
    Calls Tryz.prog 131 #[.int .u64 a0, .int .i64 a1] w fun e w' => e = .returned (.int .u64 r) ∧ Drawn0 w w' := by
  have H : (bigall_pow.l0 k a0 a1 1) = some r := h
  clear h
  have H' := Aside0.mk H
  clear H
  go_enter Tryz.func131, Tryz.ntmps131
  go_wp2
  go_loopg [0, 1, 4] k (fun kq v0 v1 v4 w' => ∃ (x0_1 : Int) (x1_1 : Int) (x4_1 : Int), v0 = .int .u64 x0_1 ∧ v1 = .int .i64 x1_1 ∧ v4 = .int .u64 x4_1 ∧ Aside0 (bigall_pow.l0 kq x0_1 x1_1 x4_1 = some r) ∧ Aside0 (kq ≤ k) ∧ Drawn0 w w')
  case atStart => exact ⟨(a0), (a1), (1), (by first | rfl | (simp; done) | (simp [*]; done)), (by first | rfl | (simp; done) | (simp [*]; done)), (by first | rfl | (simp; done) | (simp [*]; done)), H', ⟨Nat.le_refl _⟩, by repeat (first | exact Drawn0.refl _ | apply Drawn0.step)⟩
  case round =>
    clear H'
    try clear c1
    try clear p2
    obtain ⟨x0_1, x1_1, x4_1, rfl, rfl, rfl, HA, HK1, ⟨m1, rfl⟩⟩ := hrel
    cases gk with
    | zero => exact absurd HA.out (by simp [bigall_pow.l0])
    | succ k1 =>
      have H := HA.out
      clear HA
      simp only [bigall_pow.l0] at H
      by_cases c3 : x1_1 > 0
      · rw [if_pos c3] at H
        have c3b0 : decide (0 < x1_1) = true := decide_eq_true c3
        clear c3
        by_cases c4 : (Go.bits .and .i64 x1_1 1) = 0
        · rw [if_pos c4] at H
          have c4b0 : ((Go.bits .and .i64 x1_1 1) == 0) = true := beq_iff_eq.mpr c4
          have c4b1 : ((Go.bits .and .i64 x1_1 1) != 0) = false := bne_eq_false_iff_eq.mpr c4
          clear c4
          have H' := Aside0.mk H
          clear H
          go_wp2
          go_roundg k1
          case measure => have := HK1.out; omega
          case rel => exact ⟨(IntKind.u64.wrap (x0_1 * x0_1)), (x1_1 / 2), (x4_1), (by first | rfl | (simp; done) | (simp [*]; done)), (by first | rfl | (simp; done) | (simp [*]; done)), (by first | rfl | (simp; done) | (simp [*]; done)), H', ⟨by have := HK1.out; omega⟩, by repeat (first | exact Drawn0.refl _ | apply Drawn0.step)⟩
        · rw [if_neg c4] at H
          have c4b0 : ((Go.bits .and .i64 x1_1 1) == 0) = false := beq_eq_false_iff_ne.mpr c4
          have c4b1 : ((Go.bits .and .i64 x1_1 1) != 0) = true := bne_iff_ne.mpr c4
          have H' := Aside0.mk H
          clear H
          go_wp2
          go_roundg k1
          case measure => have := HK1.out; omega
          case rel => exact ⟨(IntKind.u64.wrap (x0_1 * x0_1)), (x1_1 / 2), (IntKind.u64.wrap (x4_1 * x0_1)), (by first | rfl | (simp; done) | (simp [*]; done)), (by first | rfl | (simp; done) | (simp [*]; done)), (by first | rfl | (simp; done) | (simp [*]; done)), H', ⟨by have := HK1.out; omega⟩, by repeat (first | exact Drawn0.refl _ | apply Drawn0.step)⟩
      · rw [if_neg c3] at H
        have c3b0 : decide (0 < x1_1) = false := decide_eq_false c3
        clear c3
        obtain rfl := Option.some.inj H
        go_wp2
        go_ret
        exact ⟨by first | rfl | (simp; done) | (simp [*]; done), by repeat (first | exact Drawn0.refl _ | apply Drawn0.step)⟩

/-! ### strings_NewReader: function 51 -/
/-! ### constant_newInt: function 27 -/
end Go.Proofs.YtnhonclncjgjoaaGreatDoor.Ps

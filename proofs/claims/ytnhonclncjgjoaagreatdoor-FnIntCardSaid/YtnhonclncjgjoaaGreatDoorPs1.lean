-- PRINTED by print.py (a twelfth state) out of the translation. Not trusted: Lean checks it.
import Derived.Test.YtnhonclncjgjoaaGreatDoorPs0
namespace Go.Proofs.YtnhonclncjgjoaaGreatDoor.Ps
open Go.RowKit Go.Proofs.YtnhonclncjgjoaaGreatDoorW.PrintWords Go.Proofs.YtnhonclncjgjoaaGreatDoorW.PrintLast Go.Proofs.YtnhonclncjgjoaaGreatDoorW.PrintMore
attribute [local go_sem] max2_int min2_int max_two min_two max_three min_three max_four min_four   -- for this text's walks alone
set_option linter.unusedVariables false
set_option linter.unusedSimpArgs false

/-! ### spec_digit: function 18 -/
mutual
def spec_digit.j0 : Nat → Int → Bool → Option (Int)
  | 0, _, _ => none
  | k + 1, x0, x3 => if x3 = true then (some ((x0 - 48) % 256)) else (if x0 ≥ 97 then (spec_digit.j1 k x0 (decide (x0 ≤ 122))) else (spec_digit.j1 k x0 false))
def spec_digit.j1 : Nat → Int → Bool → Option (Int)
  | 0, _, _ => none
  | k + 1, x0, x13 => if x13 = true then (some (((x0 - 97) % 256) + 10)) else (if x0 ≥ 65 then (if x0 ≤ 90 then (some (((x0 - 65) % 256) + 10)) else (some 99)) else (some 99))
end
def spec_digit.f (k : Nat) (a0 : Int) : Option (Int) := if a0 ≥ 48 then (spec_digit.j0 k a0 (decide (a0 ≤ 57))) else (spec_digit.j0 k a0 false)
theorem spec_digit.mono_l : ∀ k, (∀ y0 y1, LeO (spec_digit.j0 k y0 y1) (spec_digit.j0 (k + 1) y0 y1)) ∧ (∀ y0 y1, LeO (spec_digit.j1 k y0 y1) (spec_digit.j1 (k + 1) y0 y1))
  | 0 => ⟨fun _ _ r h => by simp [spec_digit.j0] at h, fun _ _ r h => by simp [spec_digit.j1] at h⟩
  | k + 1 => by
    obtain ⟨ih0, ih1⟩ := spec_digit.mono_l k
    refine ⟨?_, ?_⟩
    · intro y0 y1
      unfold spec_digit.j0
      repeat' first
      | (with_reducible exact ih0 _ _)
      | (with_reducible exact ih1 _ _)
      | (with_reducible exact LeO.refl _)
      | (with_reducible exact LeO.none _)
      | (with_reducible refine LeO.ite ?_ ?_)
      | (with_reducible refine LeO.bind ?_ (fun _ => ?_))
      | exact ih0 _ _
      | exact ih1 _ _
      | exact LeO.none _
      | refine LeO.ite ?_ ?_
      | refine LeO.bind ?_ (fun _ => ?_)
    · intro y0 y1
      unfold spec_digit.j1
      repeat' first
      | (with_reducible exact ih0 _ _)
      | (with_reducible exact ih1 _ _)
      | (with_reducible exact LeO.refl _)
      | (with_reducible exact LeO.none _)
      | (with_reducible refine LeO.ite ?_ ?_)
      | (with_reducible refine LeO.bind ?_ (fun _ => ?_))
      | exact ih0 _ _
      | exact ih1 _ _
      | exact LeO.none _
      | refine LeO.ite ?_ ?_
      | refine LeO.bind ?_ (fun _ => ?_)
theorem spec_digit.mono : ∀ a0 k, LeO (spec_digit.f k a0) (spec_digit.f (k + 1) a0) := by
  intro a0 k
  obtain ⟨ih0, ih1⟩ := spec_digit.mono_l k
  unfold spec_digit.f
  repeat' first
      | (with_reducible exact ih0 _ _)
      | (with_reducible exact ih1 _ _)
      | (with_reducible exact LeO.refl _)
      | (with_reducible exact LeO.none _)
      | (with_reducible refine LeO.ite ?_ ?_)
      | (with_reducible refine LeO.bind ?_ (fun _ => ?_))
      | exact ih0 _ _
      | exact ih1 _ _
      | exact LeO.none _
      | refine LeO.ite ?_ ?_
      | refine LeO.bind ?_ (fun _ => ?_)
set_option maxHeartbeats 8000000 in
set_option maxRecDepth 100000 in
theorem spec_digit.calls (k : Nat) (a0 : Int) (r : Int) (w : World) (h : spec_digit.f k a0 = some r) :
    Calls Tryz.prog 18 #[.int .u8 a0] w fun e w' => e = .returned (.int .i64 r) ∧ Drawn0 w w' := by
  have H : (if a0 ≥ 48 then (spec_digit.j0 k a0 (decide (a0 ≤ 57))) else (spec_digit.j0 k a0 false)) = some r := h
  clear h
  have HC2 := Aside0.mk H
  clear H
  go_enter Tryz.func18, Tryz.ntmps18
  go_upto_region 1 with (fail)
  go_cut [3] (fun v3 wc => ∃ (kq : Nat) (x3_1 : Bool), v3 = .bool x3_1 ∧ Aside0 (spec_digit.j0 kq a0 x3_1 = some r) ∧ Aside0 (kq ≤ k) ∧ Drawn0 w wc)
  case first =>
    have H := HC2.out
    clear HC2
    by_cases c3 : a0 ≥ 48
    · rw [if_pos c3] at H
      have c3b0 : decide (48 ≤ a0) = true := decide_eq_true c3
      clear c3
      (first | rw [c3b0] | (simp only [i64_w, i32_w]; rw [c3b0]) | skip)
      have H' := Aside0.mk H
      clear H
      go_wp2
      go_meet
      case rel => exact ⟨_, (decide (a0 ≤ 57)), (by first | rfl | (simp; done) | (simp [*]; done)), H', ⟨by first | omega | exact Nat.le_refl _⟩, by repeat (first | exact Drawn0.refl _ | apply Drawn0.step)⟩
    · rw [if_neg c3] at H
      have c3b0 : decide (48 ≤ a0) = false := decide_eq_false c3
      clear c3
      (first | rw [c3b0] | (simp only [i64_w, i32_w]; rw [c3b0]) | skip)
      have H' := Aside0.mk H
      clear H
      go_wp2
      go_meet
      case rel => exact ⟨_, (false), (by first | rfl | (simp; done) | (simp [*]; done)), H', ⟨by first | omega | exact Nat.le_refl _⟩, by repeat (first | exact Drawn0.refl _ | apply Drawn0.step)⟩
  case rest =>
    clear HC2
    try clear c1
    try clear p2
    try clear c3
    try clear c3b0
    obtain ⟨kq, x3_1, rfl, HA, HJ1, ⟨mc1, rfl⟩⟩ := hcut
    cases kq with
    | zero => exact absurd HA.out (by simp [spec_digit.j0])
    | succ kj1 =>
      have H := HA.out
      clear HA
      simp only [spec_digit.j0] at H
      by_cases c4 : x3_1 = true
      · subst c4
        have H1 : (some ((a0 - 48) % 256)) = some r := by rw [if_pos rfl] at H; exact H
        clear H
        have H := H1
        clear H1
        obtain rfl := Option.some.inj H
        go_wp2
        go_ret
        exact ⟨by first | rfl | (simp; done) | (simp [*]; done), by repeat (first | exact Drawn0.refl _ | apply Drawn0.step)⟩
      · replace c4 := Bool.eq_false_iff.mpr c4
        subst c4
        have H1 : (if a0 ≥ 97 then (spec_digit.j1 kj1 a0 (decide (a0 ≤ 122))) else (spec_digit.j1 kj1 a0 false)) = some r := by rw [if_neg (show ¬ (false = true) by decide)] at H; exact H
        clear H
        have H := H1
        clear H1
        have HC5 := Aside0.mk H
        clear H
        go_upto_region 3 with (fail)
        go_cut [13] (fun v13 wc => ∃ (kq : Nat) (x13_4 : Bool), v13 = .bool x13_4 ∧ Aside0 (spec_digit.j1 kq a0 x13_4 = some r) ∧ Aside0 (kq ≤ kj1) ∧ Drawn0 w wc)
        case first =>
          have H := HC5.out
          clear HC5
          by_cases c6 : a0 ≥ 97
          · rw [if_pos c6] at H
            have c6b0 : decide (97 ≤ a0) = true := decide_eq_true c6
            clear c6
            (first | rw [c6b0] | (simp only [i64_w, i32_w]; rw [c6b0]) | skip)
            have H' := Aside0.mk H
            clear H
            go_wp2
            go_meet
            case rel => exact ⟨_, (decide (a0 ≤ 122)), (by first | rfl | (simp; done) | (simp [*]; done)), H', ⟨by have := HJ1.out; first | omega | exact Nat.le_refl _⟩, by repeat (first | exact Drawn0.refl _ | apply Drawn0.step)⟩
          · rw [if_neg c6] at H
            have c6b0 : decide (97 ≤ a0) = false := decide_eq_false c6
            clear c6
            (first | rw [c6b0] | (simp only [i64_w, i32_w]; rw [c6b0]) | skip)
            have H' := Aside0.mk H
            clear H
            go_wp2
            go_meet
            case rel => exact ⟨_, (false), (by first | rfl | (simp; done) | (simp [*]; done)), H', ⟨by have := HJ1.out; first | omega | exact Nat.le_refl _⟩, by repeat (first | exact Drawn0.refl _ | apply Drawn0.step)⟩
        case rest =>
          clear HC5
          try clear c1
          try clear p2
          try clear c3
          try clear c3b0
          try clear c4
          try clear c6
          try clear c6b0
          try clear p2
          obtain ⟨kq, x13_4, rfl, HA, HJ4, ⟨mc4, rfl⟩⟩ := hcut
          cases kq with
          | zero => exact absurd HA.out (by simp [spec_digit.j1])
          | succ kj4 =>
            have H := HA.out
            clear HA
            simp only [spec_digit.j1] at H
            by_cases c7 : x13_4 = true
            · subst c7
              have H1 : (some (((a0 - 97) % 256) + 10)) = some r := by rw [if_pos rfl] at H; exact H
              clear H
              have H := H1
              clear H1
              obtain rfl := Option.some.inj H
              go_wp2
              go_ret
              exact ⟨by first | rfl | (simp; done) | (simp [*]; done), by repeat (first | exact Drawn0.refl _ | apply Drawn0.step)⟩
            · replace c7 := Bool.eq_false_iff.mpr c7
              subst c7
              have H1 : (if a0 ≥ 65 then (if a0 ≤ 90 then (some (((a0 - 65) % 256) + 10)) else (some 99)) else (some 99)) = some r := by rw [if_neg (show ¬ (false = true) by decide)] at H; exact H
              clear H
              have H := H1
              clear H1
              by_cases c8 : a0 ≥ 65
              · rw [if_pos c8] at H
                have c8b0 : decide (65 ≤ a0) = true := decide_eq_true c8
                clear c8
                by_cases c9 : a0 ≤ 90
                · rw [if_pos c9] at H
                  have c9b0 : decide (a0 ≤ 90) = true := decide_eq_true c9
                  clear c9
                  obtain rfl := Option.some.inj H
                  go_wp2
                  go_ret
                  exact ⟨by first | rfl | (simp; done) | (simp [*]; done), by repeat (first | exact Drawn0.refl _ | apply Drawn0.step)⟩
                · rw [if_neg c9] at H
                  have c9b0 : decide (a0 ≤ 90) = false := decide_eq_false c9
                  clear c9
                  obtain rfl := Option.some.inj H
                  go_wp2
                  go_ret
                  exact ⟨by first | rfl | (simp; done) | (simp [*]; done), by repeat (first | exact Drawn0.refl _ | apply Drawn0.step)⟩
              · rw [if_neg c8] at H
                have c8b0 : decide (65 ≤ a0) = false := decide_eq_false c8
                clear c8
                obtain rfl := Option.some.inj H
                go_wp2
                go_ret
                exact ⟨by first | rfl | (simp; done) | (simp [*]; done), by repeat (first | exact Drawn0.refl _ | apply Drawn0.step)⟩

/-! ### spec_Small: function 17 -/
def spec_Small.l0 : Nat → Int → List Int → Option (List Int)
  | 0, _, _ => none
  | k + 1, x0, x3 => if x0 > 0 then (if x3.length < 17592186044416 then (spec_Small.l0 k (wrap64 (Int.tdiv x0 65536)) (x3 ++ [Int.tmod x0 65536])) else (none)) else (some x3)
def spec_Small.f (k : Nat) (a0 : Int) : Option (List Int) := spec_Small.l0 k a0 (([] : List Int))
theorem spec_Small.mono_l : ∀ k, (∀ y0 y1, LeO (spec_Small.l0 k y0 y1) (spec_Small.l0 (k + 1) y0 y1))
  | 0 => fun _ _ r h => by simp [spec_Small.l0] at h
  | k + 1 => by
    have ih0 := spec_Small.mono_l k
    · intro y0 y1
      unfold spec_Small.l0
      repeat' first
      | (with_reducible exact ih0 _ _)
      | (with_reducible exact LeO.refl _)
      | (with_reducible exact LeO.none _)
      | (with_reducible refine LeO.ite ?_ ?_)
      | (with_reducible refine LeO.bind ?_ (fun _ => ?_))
      | exact ih0 _ _
      | exact LeO.none _
      | refine LeO.ite ?_ ?_
      | refine LeO.bind ?_ (fun _ => ?_)
theorem spec_Small.mono : ∀ a0 k, LeO (spec_Small.f k a0) (spec_Small.f (k + 1) a0) := by
  intro a0 k
  have ih0 := spec_Small.mono_l k
  unfold spec_Small.f
  repeat' first
      | (with_reducible exact ih0 _ _)
      | (with_reducible exact LeO.refl _)
      | (with_reducible exact LeO.none _)
      | (with_reducible refine LeO.ite ?_ ?_)
      | (with_reducible refine LeO.bind ?_ (fun _ => ?_))
      | exact ih0 _ _
      | exact LeO.none _
      | refine LeO.ite ?_ ?_
      | refine LeO.bind ?_ (fun _ => ?_)
set_option maxHeartbeats 8000000 in
set_option maxRecDepth 100000 in
theorem spec_Small.calls (k : Nat) (a0 : Int) (r : List Int) (w : World) (h : spec_Small.f k a0 = some r) :
    Calls Tryz.prog 17 #[.int .i64 a0] w fun e w' => ∃ v0_ : Value, e = .returned (v0_) ∧ Kd.R (Kd.int .i64) 3 w' w.heap.size (fun _ => True) v0_ r ∧ Below w.heap.size w w' := by
  have HB := Aside0.mk (Below.refl w.heap.size w)
  have H : (spec_Small.l0 k a0 (([] : List Int))) = some r := h
  clear h
  obtain ⟨y101, hy101⟩ : ∃ y_ : List Int, y_ = (([] : List Int)) := ⟨_, rfl⟩
  replace H : (spec_Small.l0 k a0 y101) = some r := by first | (rw [hy101]; with_reducible exact H) | (have H2_ := (Option.bind_some _ _).symm.trans H; rw [hy101]; with_reducible exact H2_) | (have H2_ := (Option.bind_some _ _).symm.trans H; with_reducible exact H2_) | with_reducible exact H | (rw [hy101]; exact H) | exact H
  have Ny101 := Aside0.mk hy101
  clear hy101
  have H' := Aside0.mk H
  clear H
  go_enter Tryz.func17, Tryz.ntmps17
  go_wp2_with (first | ((with_reducible refine gate_dst (N := 4) rfl ?_); refine Kd.R_lit (Kd.int .i64) _ 3 ?hg (N := 4) ?hd (xs := ([] : List Int)) (inner := []) (ok := fun _ => True) (okp := fun _ => True) ?hr ?hp (fun _ hk => hk) trivial (Below.refl _ _) (Nat.le_refl _) (by simp) ?_; (case hd => rfl); (case hg => rfl); (case hr => first | (go_simp; done) | (go_simp; rfl)); (case hp => exact (Reps.none _ _)); intro v102 w2 ho3 hb hg_ hnew_; clear hg_ hnew_; (first | rw [← Ny101.out] at ho3 | (simp only [Int.reduceToNat] at ho3; rw [← Ny101.out] at ho3)); have n0_ := Aside0.mk (Kd.R_lower ho3 (below_size (by repeat (first | (with_reducible first | exact HB.out | apply below_alloc | apply pw_below_drewN | apply below_drew1) | exact HB.out)))); have n1_ := Aside0.mk (below_step (by repeat (first | (with_reducible first | exact HB.out | apply below_alloc | apply pw_below_drewN | apply below_drew1) | exact HB.out)) hb); clear HB; have HO103 := n0_; have HB := n1_; clear n0_ n1_; clear hb ho3))
  go_loopg [0, 3] k (fun kq v0 v3 w' => ∃ (x0_1 : Int) (x3_1 : List Int), v0 = .int .i64 x0_1 ∧ Aside0 (spec_Small.l0 kq x0_1 x3_1 = some r) ∧ Aside0 (kq ≤ k) ∧ Aside0 (Kd.R (Kd.int .i64) 3 w' w.heap.size (fun _ => True) v3 x3_1) ∧ Aside0 (Below w.heap.size w w'))
  case atStart => exact ⟨(a0), (y101), (by first | rfl | (simp; done) | (simp [*]; done)), H', ⟨Nat.le_refl _⟩, ⟨by (with_reducible repeat (first | apply Kd.R_alloc | apply Kd.R_drewN | apply Kd.R_drew)); exact HO103.out⟩, ⟨by repeat (first | (with_reducible first | exact HB.out | apply below_alloc | apply pw_below_drewN | apply below_drew1) | exact HB.out)⟩⟩
  case round =>
    clear H'
    try clear c1
    try clear p2
    obtain ⟨x0_1, x3_1, rfl, HA, HK1, HO_3, HB⟩ := hrel
    cases gk with
    | zero => exact absurd HA.out (by simp [spec_Small.l0])
    | succ k1 =>
      have H := HA.out
      clear HA
      simp only [spec_Small.l0] at H
      by_cases c4 : x0_1 > 0
      · rw [if_pos c4] at H
        have c4b0 : decide (0 < x0_1) = true := decide_eq_true c4
        clear c4
        by_cases c5 : x3_1.length < 17592186044416
        · rw [if_pos c5] at H
          have LMc5 := Aside0.mk c5
          clear c5
          obtain ⟨y104, hy104⟩ : ∃ y_ : List Int, y_ = (x3_1 ++ [Int.tmod x0_1 65536]) := ⟨_, rfl⟩
          replace H : (spec_Small.l0 k1 (wrap64 (Int.tdiv x0_1 65536)) y104) = some r := by first | (rw [hy104]; with_reducible exact H) | (have H2_ := (Option.bind_some _ _).symm.trans H; rw [hy104]; with_reducible exact H2_) | (have H2_ := (Option.bind_some _ _).symm.trans H; with_reducible exact H2_) | with_reducible exact H | (rw [hy104]; exact H) | exact H
          have Ny104 := Aside0.mk hy104
          clear hy104
          have H' := Aside0.mk H
          clear H
          go_wp2_with (first | ((with_reducible refine gate_builtin (b := .append) (xs := #[.tmp 9, .tmp 12]) rfl ?_); at_builtin; refine Kd.R_append (Kd.int .i64) (w0 := w) w.heap.size rfl (.tmp 9) (.tmp 12) 24 3 (.int .i64 0) 8 rfl Tryz.underlying24 info3 rfl (by decide) (by omega) u3 x3_1 (Int.tmod x0_1 65536) [.int .i64 (Int.tmod x0_1 65536)] (fun _ => True) (fun _ => False) rfl rfl ?aP (fun _ hk => hk.elim) ?aF ?aO ?aB ?aS ?aL ?_; (case aP => exact rfl); (case aB => exact (by repeat (first | (with_reducible first | exact HB.out | apply below_alloc | apply pw_below_drewN | apply below_drew1) | exact HB.out))); (case aF => exact (fun _ _ => trivial)); (case aO => exact (by (with_reducible repeat (first | apply Kd.R_alloc | apply Kd.R_drewN | apply Kd.R_drew)); exact HO_3.out)); (case aS => exact (below_size (by repeat (first | (with_reducible first | exact HB.out | apply below_alloc | apply pw_below_drewN | apply below_drew1) | exact HB.out)))); (case aL => have := LMc5.out; omega); intro v105 w6 ho hb hg hat; rw [← Ny104.out] at ho; have n0_ := Aside0.mk (hb); have n1_ := Aside0.mk (ho); clear HB; clear HO_3; have HB := n0_; have HO106 := n1_; clear n0_ n1_; clear ho hb hg hat))
          go_roundg k1
          case measure => have := HK1.out; omega
          case rel => exact ⟨(wrap64 (Int.tdiv x0_1 65536)), (y104), (by first | rfl | (simp; done) | (simp [*]; done)), H', ⟨by have := HK1.out; omega⟩, ⟨by (with_reducible repeat (first | apply Kd.R_alloc | apply Kd.R_drewN | apply Kd.R_drew)); exact HO106.out⟩, ⟨by repeat (first | (with_reducible first | exact HB.out | apply below_alloc | apply pw_below_drewN | apply below_drew1) | exact HB.out)⟩⟩
        · rw [if_neg c5] at H
          exact absurd H (by simp)
      · rw [if_neg c4] at H
        have c4b0 : decide (0 < x0_1) = false := decide_eq_false c4
        clear c4
        obtain rfl := Option.some.inj H
        go_wp2
        go_ret
        exact ⟨_, by first | rfl | (simp [errW_none, errW_some] <;> rfl) | (simp [*, errW_none, errW_some] <;> rfl), by (with_reducible repeat (first | apply Kd.R_alloc | apply Kd.R_drewN | apply Kd.R_drew)); exact HO_3.out, by repeat (first | (with_reducible first | exact HB.out | apply below_alloc | apply pw_below_drewN | apply below_drew1) | exact HB.out)⟩

/-! ### spec_trim: function 39 -/
def spec_trim.l0 : Nat → List Int → Option (List Int)
  | 0, _ => none
  | k + 1, x0 => if (x0.length : Int) > 0 then (if 0 ≤ (wrap64 ((x0.length : Int) - 1)) then (if (wrap64 ((x0.length : Int) - 1)) < (x0.length : Int) then (if (rd x0 (wrap64 ((x0.length : Int) - 1))) = 0 then (if (wrap64 ((x0.length : Int) - 1)) ≤ (x0.length : Int) then (spec_trim.l0 k (x0.take ((wrap64 ((x0.length : Int) - 1)) : Int).toNat)) else (none)) else (some x0)) else (none)) else (none)) else (some x0)
def spec_trim.f (k : Nat) (l0 : List Int) : Option (List Int) := spec_trim.l0 k l0
theorem spec_trim.mono_l : ∀ k, (∀ y0, LeO (spec_trim.l0 k y0) (spec_trim.l0 (k + 1) y0))
  | 0 => fun _ r h => by simp [spec_trim.l0] at h
  | k + 1 => by
    have ih0 := spec_trim.mono_l k
    · intro y0
      unfold spec_trim.l0
      repeat' first
      | (with_reducible exact ih0 _)
      | (with_reducible exact LeO.refl _)
      | (with_reducible exact LeO.none _)
      | (with_reducible refine LeO.ite ?_ ?_)
      | (with_reducible refine LeO.bind ?_ (fun _ => ?_))
      | exact ih0 _
      | exact LeO.none _
      | refine LeO.ite ?_ ?_
      | refine LeO.bind ?_ (fun _ => ?_)
theorem spec_trim.mono : ∀ a0 k, LeO (spec_trim.f k a0) (spec_trim.f (k + 1) a0) := by
  intro a0 k
  have ih0 := spec_trim.mono_l k
  unfold spec_trim.f
  repeat' first
      | (with_reducible exact ih0 _)
      | (with_reducible exact LeO.refl _)
      | (with_reducible exact LeO.none _)
      | (with_reducible refine LeO.ite ?_ ?_)
      | (with_reducible refine LeO.bind ?_ (fun _ => ?_))
      | exact ih0 _
      | exact LeO.none _
      | refine LeO.ite ?_ ?_
      | refine LeO.bind ?_ (fun _ => ?_)
set_option maxHeartbeats 8000000 in
set_option maxRecDepth 100000 in
theorem spec_trim.calls (k : Nat) (P0_ : Nat → Prop) (A0 : Option Addr) (c0 : Nat) (l0 : List Int) (r : List Int) (w : World) (hs0 : Kd.V (Kd.int .i64) 3 w w.heap.size (fun k_ => P0_ k_) (.slice A0 l0.length c0) l0) (h : spec_trim.f k l0 = some r) :
    Calls Tryz.prog 39 #[.slice A0 l0.length c0] w fun e w' => ∃ v0_ : Value, e = .returned (v0_) ∧ Kd.V (Kd.int .i64) 3 w' w.heap.size (fun k_ => (P0_ k_ ∨ w.heap.size ≤ k_)) v0_ r ∧ Below w.heap.size w w' := by
  have HO0 := Aside0.mk (show Kd.V (Kd.int .i64) 3 w w.heap.size (fun k_ => (P0_ k_ ∨ w.heap.size ≤ k_)) (.slice A0 l0.length c0) l0 from Kd.V_mono hs0 (fun k_ hk => .inl hk))
  have HB := Aside0.mk (Below.refl w.heap.size w)
  have H : (spec_trim.l0 k l0) = some r := h
  clear h
  have H' := Aside0.mk H
  clear H
  go_enter Tryz.func39, Tryz.ntmps39
  go_wp2
  go_loopg [0] k (fun kq v0 w' => ∃ (x0_1 : List Int), Aside0 (spec_trim.l0 kq x0_1 = some r) ∧ Aside0 (kq ≤ k) ∧ Aside0 (Kd.V (Kd.int .i64) 3 w' w.heap.size (fun k_ => (P0_ k_ ∨ w.heap.size ≤ k_)) v0 x0_1) ∧ Aside0 (Below w.heap.size w w'))
  case atStart => exact ⟨(l0), H', ⟨Nat.le_refl _⟩, ⟨by (with_reducible repeat (first | apply Kd.V_alloc | apply Kd.V_drewN | apply Kd.V_drew)); exact HO0.out⟩, ⟨by repeat (first | (with_reducible first | exact HB.out | apply below_alloc | apply pw_below_drewN | apply below_drew1) | exact HB.out)⟩⟩
  case round =>
    clear H'
    obtain ⟨x0_1, HA, HK1, HO_0, HB⟩ := hrel
    cases gk with
    | zero => exact absurd HA.out (by simp [spec_trim.l0])
    | succ k1 =>
      have H := HA.out
      clear HA
      simp only [spec_trim.l0] at H
      by_cases c2 : (x0_1.length : Int) > 0
      · rw [if_pos c2] at H
        have c2b0 : decide (0 < (x0_1.length : Int)) = true := decide_eq_true c2
        have c2b1 : decide (0 < x0_1.length) = true := decide_eq_true (by omega)
        clear c2
        obtain ⟨ji3, hji3⟩ : ∃ j_ : Int, (wrap64 ((x0_1.length : Int) - 1)) = j_ := ⟨_, rfl⟩
        replace H : (if 0 ≤ (ji3) then (if (ji3) < (x0_1.length : Int) then (if (rd x0_1 (ji3)) = 0 then (if (ji3) ≤ (x0_1.length : Int) then (spec_trim.l0 k1 (x0_1.take ((ji3) : Int).toNat)) else (none)) else (some x0_1)) else (none)) else (none)) = some r := by first | (rw [hji3] at H; exact H) | (simp only [hji3] at H ⊢; exact H)
        have hji3w : (IntKind.i64.wrap ((x0_1.length : Int) - 1)) = ji3 := (i64_w _).trans hji3
        by_cases c4 : 0 ≤ (ji3)
        · rw [if_pos c4] at H
          have c4b0 : decide (0 ≤ (ji3)) = true := decide_eq_true c4
          clear c4
          by_cases c5 : (ji3) < (x0_1.length : Int)
          · rw [if_pos c5] at H
            have c5b0 : decide ((ji3) < (x0_1.length : Int)) = true := decide_eq_true c5
            clear c5
            by_cases c6 : (rd x0_1 (ji3)) = 0
            · rw [if_pos c6] at H
              have c6b0 : ((rd x0_1 (ji3)) == 0) = true := beq_iff_eq.mpr c6
              have c6b1 : ((rd x0_1 (ji3)) != 0) = false := bne_eq_false_iff_eq.mpr c6
              clear c6
              have c7b0 := eq_true (of_decide_eq_true (by first | (with_reducible assumption) | assumption) : 0 ≤ (ji3))
              by_cases c8 : (ji3) ≤ (x0_1.length : Int)
              · rw [if_pos c8] at H
                have c8b0 := eq_true c8
                have c8b1 : decide ((ji3) ≤ (x0_1.length : Int)) = true := decide_eq_true c8
                clear c8
                obtain ⟨y108, hy108⟩ : ∃ y_ : List Int, y_ = (x0_1.take ((ji3) : Int).toNat) := ⟨_, rfl⟩
                replace H : (spec_trim.l0 k1 y108) = some r := by first | (rw [hy108]; with_reducible exact H) | (have H2_ := (Option.bind_some _ _).symm.trans H; rw [hy108]; with_reducible exact H2_) | (have H2_ := (Option.bind_some _ _).symm.trans H; with_reducible exact H2_) | with_reducible exact H | (rw [hy108]; exact H) | exact H
                have Ny108 := Aside0.mk hy108
                clear hy108
                have H' := Aside0.mk H
                clear H
                obtain ⟨Ao9, co9, eo9⟩ := Kd.V_slice HO_0.out
                subst eo9
                have p107 : 0 ≤ ((ji3) : Int) := of_decide_eq_true (by first | (with_reducible assumption) | assumption)
                have q107 : (ji3) < (x0_1.length : Int) := of_decide_eq_true (by first | (with_reducible assumption) | assumption)
                obtain ⟨ad107, e107, hx107_0⟩ := Kd.at_int (Kd.V_reads' HO_0.out).2.2 (ji3) p107 q107
                cases e107
                replace p107 := eq_true p107
                replace q107 := eq_true q107
                have q10 : ((ji3) : Int) ≤ ((x0_1.length : Int) : Int) := of_decide_eq_true (by first | (with_reducible assumption) | assumption)
                obtain ⟨i010, hi010, _, hsz10, _⟩ := info_parts info3
                have hroom10 : x0_1.length ≤ co9 := (Kd.V_reads' HO_0.out).2.1
                have hC10 : Kd.F (Kd.int .i64) _ _ (some ad107) x0_1.length x0_1 := (Kd.V_at (base := w.heap.size) HO_0.out).2.2
                have hcut10 := cut_to (P := Tryz.prog) 24 3 .i64 Tryz.underlying24 hi010 (some ad107) x0_1.length co9 (ji3) (of_decide_eq_true (by first | (with_reducible assumption) | assumption)) q10 hroom10
                have hr10 := Kd.F_take (m := ((ji3) : Int).toNat) hC10 (by omega)
                have hy10 : y108.length = ((ji3) : Int).toNat := (by rw [Ny108.out, List.length_take]; omega)
                rw [← Ny108.out] at hr10
                rw [← hy10] at hcut10
                have HO112 := Aside0.mk (show Kd.V (Kd.int .i64) 3 _ w.heap.size _ (.slice (some ad107) y108.length co9) y108 from Kd.V_mk (by omega) hr10)
                have HC112 := Aside0.mk (show y108.length ≤ co9 from by omega)
                clear hr10 hC10 hroom10 hi010 hsz10
                have KY10 := Aside0.mk hy10
                clear hy10
                replace q10 := eq_true q10
                go_wp2
                go_roundg k1
                case measure => have := HK1.out; omega
                case rel => exact ⟨(y108), H', ⟨by have := HK1.out; omega⟩, ⟨by (with_reducible repeat (first | apply Kd.V_alloc | apply Kd.V_drewN | apply Kd.V_drew)); exact HO112.out⟩, ⟨by repeat (first | (with_reducible first | exact HB.out | apply below_alloc | apply pw_below_drewN | apply below_drew1) | exact HB.out)⟩⟩
              · rw [if_neg c8] at H
                exact absurd H (by simp)
            · rw [if_neg c6] at H
              have c6b0 : ((rd x0_1 (ji3)) == 0) = false := beq_eq_false_iff_ne.mpr c6
              have c6b1 : ((rd x0_1 (ji3)) != 0) = true := bne_iff_ne.mpr c6
              obtain rfl := Option.some.inj H
              obtain ⟨Ao11, co11, eo11⟩ := Kd.V_slice HO_0.out
              subst eo11
              have p107 : 0 ≤ ((ji3) : Int) := of_decide_eq_true (by first | (with_reducible assumption) | assumption)
              have q107 : (ji3) < (x0_1.length : Int) := of_decide_eq_true (by first | (with_reducible assumption) | assumption)
              obtain ⟨ad107, e107, hx107_0⟩ := Kd.at_int (Kd.V_reads' HO_0.out).2.2 (ji3) p107 q107
              cases e107
              replace p107 := eq_true p107
              replace q107 := eq_true q107
              go_wp2
              go_ret
              exact ⟨_, by first | rfl | (simp [errW_none, errW_some] <;> rfl) | (simp only [← hji3]; first | rfl | (simp [errW_none, errW_some] <;> rfl)) | (simp [*, errW_none, errW_some] <;> rfl), by (with_reducible repeat (first | apply Kd.V_alloc | apply Kd.V_drewN | apply Kd.V_drew)); exact HO_0.out, by repeat (first | (with_reducible first | exact HB.out | apply below_alloc | apply pw_below_drewN | apply below_drew1) | exact HB.out)⟩
          · rw [if_neg c5] at H
            exact absurd H (by simp)
        · rw [if_neg c4] at H
          exact absurd H (by simp)
      · rw [if_neg c2] at H
        have c2b0 : decide (0 < (x0_1.length : Int)) = false := decide_eq_false c2
        have c2b1 : decide (0 < x0_1.length) = false := decide_eq_false (by omega)
        clear c2
        obtain rfl := Option.some.inj H
        obtain ⟨Ao12, co12, eo12⟩ := Kd.V_slice HO_0.out
        subst eo12
        go_wp2
        go_ret
        exact ⟨_, by first | rfl | (simp [errW_none, errW_some] <;> rfl) | (simp [*, errW_none, errW_some] <;> rfl), by (with_reducible repeat (first | apply Kd.V_alloc | apply Kd.V_drewN | apply Kd.V_drew)); exact HO_0.out, by repeat (first | (with_reducible first | exact HB.out | apply below_alloc | apply pw_below_drewN | apply below_drew1) | exact HB.out)⟩

/-! ### spec_Of: function 35 -/
mutual
def spec_Of.l0 : Nat → List Int → List Int → Int → Int → Option (List Int)
  | 0, _, _, _, _ => none
  | k + 1, x3, x8, x9, x10 => if x10 < x9 then (if 0 ≤ x10 then (if x10 < (x8.length : Int) then (spec_Of.l1 k x3 (rd x8 x10) 0 x8 x9 x10) else (none)) else (none)) else ((spec_trim.f k x3).bind fun t116 => (some t116))
def spec_Of.l1 : Nat → List Int → Int → Int → List Int → Int → Int → Option (List Int)
  | 0, _, _, _, _, _, _ => none
  | k + 1, x3, x5, x6, x8, x9, x10 => if x6 < 4 then (if 0 ≤ (wrap64 (16 * x6)) then (if x3.length < 17592186044416 then (spec_Of.l1 k (x3 ++ [wrap64 (Go.bits .and .u64 (shr .u64 x5 (wrap64 (16 * x6))) 65535)]) x5 (wrap64 (x6 + 1)) x8 x9 x10) else (none)) else (none)) else (spec_Of.l0 k x3 x8 x9 (wrap64 (x10 + 1)))
end
def spec_Of.f (k : Nat) (l0 : List Int) : Option (List Int) := spec_Of.l0 k (([] : List Int)) l0 (l0.length : Int) 0
theorem spec_Of.mono_l : ∀ k, (∀ y0 y1 y2 y3, LeO (spec_Of.l0 k y0 y1 y2 y3) (spec_Of.l0 (k + 1) y0 y1 y2 y3)) ∧ (∀ y0 y1 y2 y3 y4 y5, LeO (spec_Of.l1 k y0 y1 y2 y3 y4 y5) (spec_Of.l1 (k + 1) y0 y1 y2 y3 y4 y5))
  | 0 => ⟨fun _ _ _ _ r h => by simp [spec_Of.l0] at h, fun _ _ _ _ _ _ r h => by simp [spec_Of.l1] at h⟩
  | k + 1 => by
    obtain ⟨ih0, ih1⟩ := spec_Of.mono_l k
    refine ⟨?_, ?_⟩
    · intro y0 y1 y2 y3
      unfold spec_Of.l0
      repeat' first
      | (with_reducible exact ih0 _ _ _ _)
      | (with_reducible exact ih1 _ _ _ _ _ _)
      | (with_reducible exact spec_trim.mono _ _)
      | (with_reducible exact LeO.refl _)
      | (with_reducible exact LeO.none _)
      | (with_reducible refine LeO.ite ?_ ?_)
      | (with_reducible refine LeO.bind ?_ (fun _ => ?_))
      | exact ih0 _ _ _ _
      | exact ih1 _ _ _ _ _ _
      | exact spec_trim.mono _ _
      | exact LeO.none _
      | refine LeO.ite ?_ ?_
      | refine LeO.bind ?_ (fun _ => ?_)
    · intro y0 y1 y2 y3 y4 y5
      unfold spec_Of.l1
      repeat' first
      | (with_reducible exact ih0 _ _ _ _)
      | (with_reducible exact ih1 _ _ _ _ _ _)
      | (with_reducible exact spec_trim.mono _ _)
      | (with_reducible exact LeO.refl _)
      | (with_reducible exact LeO.none _)
      | (with_reducible refine LeO.ite ?_ ?_)
      | (with_reducible refine LeO.bind ?_ (fun _ => ?_))
      | exact ih0 _ _ _ _
      | exact ih1 _ _ _ _ _ _
      | exact spec_trim.mono _ _
      | exact LeO.none _
      | refine LeO.ite ?_ ?_
      | refine LeO.bind ?_ (fun _ => ?_)
theorem spec_Of.mono : ∀ a0 k, LeO (spec_Of.f k a0) (spec_Of.f (k + 1) a0) := by
  intro a0 k
  obtain ⟨ih0, ih1⟩ := spec_Of.mono_l k
  unfold spec_Of.f
  repeat' first
      | (with_reducible exact ih0 _ _ _ _)
      | (with_reducible exact ih1 _ _ _ _ _ _)
      | (with_reducible exact spec_trim.mono _ _)
      | (with_reducible exact LeO.refl _)
      | (with_reducible exact LeO.none _)
      | (with_reducible refine LeO.ite ?_ ?_)
      | (with_reducible refine LeO.bind ?_ (fun _ => ?_))
      | exact ih0 _ _ _ _
      | exact ih1 _ _ _ _ _ _
      | exact spec_trim.mono _ _
      | exact LeO.none _
      | refine LeO.ite ?_ ?_
      | refine LeO.bind ?_ (fun _ => ?_)
set_option maxHeartbeats 8000000 in
set_option maxRecDepth 100000 in
theorem spec_Of.calls (k : Nat) (A0 : Option Addr) (c0 : Nat) (l0 : List Int) (r : List Int) (w : World) (hr0 : Kd.C (Kd.int .u64) w A0 l0.length l0) (hc0 : l0.length ≤ c0) (h : spec_Of.f k l0 = some r) :
    Calls Tryz.prog 35 #[.slice A0 l0.length c0] w fun e w' => ∃ v0_ : Value, e = .returned (v0_) ∧ Kd.V (Kd.int .i64) 3 w' w.heap.size (fun k_ => (w.heap.size ≤ k_)) v0_ r ∧ Below w.heap.size w w' := by
  have HR0 := Aside0.mk hr0
  have HC0 := Aside0.mk hc0
  clear hr0 hc0
  have HB := Aside0.mk (Below.refl w.heap.size w)
  have H : (spec_Of.l0 k (([] : List Int)) l0 (l0.length : Int) 0) = some r := h
  clear h
  obtain ⟨y113, hy113⟩ : ∃ y_ : List Int, y_ = (([] : List Int)) := ⟨_, rfl⟩
  replace H : (spec_Of.l0 k y113 l0 (l0.length : Int) 0) = some r := by first | (rw [hy113]; with_reducible exact H) | (have H2_ := (Option.bind_some _ _).symm.trans H; rw [hy113]; with_reducible exact H2_) | (have H2_ := (Option.bind_some _ _).symm.trans H; with_reducible exact H2_) | with_reducible exact H | (rw [hy113]; exact H) | exact H
  have Ny113 := Aside0.mk hy113
  clear hy113
  have H' := Aside0.mk H
  clear H
  go_enter Tryz.func35, Tryz.ntmps35
  go_wp2_with (first | ((with_reducible refine gate_dst (N := 7) rfl ?_); refine Kd.R_lit (Kd.int .i64) _ 3 ?hg (N := 7) ?hd (xs := ([] : List Int)) (inner := []) (ok := fun _ => True) (okp := fun _ => True) ?hr ?hp (fun _ hk => hk) trivial (Below.refl _ _) (Nat.le_refl _) (by simp) ?_; (case hd => rfl); (case hg => rfl); (case hr => first | (go_simp; done) | (go_simp; rfl)); (case hp => exact (Reps.none _ _)); intro v114 w2 ho3 hb hg_ hnew_; clear hg_ hnew_; (first | rw [← Ny113.out] at ho3 | (simp only [Int.reduceToNat] at ho3; rw [← Ny113.out] at ho3)); have n0_ := Aside0.mk (Kd.R_lower (Kd.R_newM (M := fun k_ => (w.heap.size ≤ k_)) ho3 (below_size (by repeat (first | (with_reducible first | exact HB.out | apply below_alloc | apply pw_below_drewN | apply below_drew1) | exact HB.out))) (fun k_ h_ => h_)) (below_size (by repeat (first | (with_reducible first | exact HB.out | apply below_alloc | apply pw_below_drewN | apply below_drew1) | exact HB.out)))); have n1_ := Aside0.mk (below_step (by repeat (first | (with_reducible first | exact HB.out | apply below_alloc | apply pw_below_drewN | apply below_drew1) | exact HB.out)) hb); clear HB; have HO115 := n0_; have HB := n1_; clear n0_ n1_; clear hb ho3))
  go_loopg [3, 10] k (fun kq v3 v10 w' => ∃ (x3_1 : List Int) (x10_1 : Int), v10 = .int .i64 x10_1 ∧ Aside0 (spec_Of.l0 kq x3_1 l0 (l0.length : Int) x10_1 = some r) ∧ Aside0 (kq ≤ k) ∧ Aside0 (Kd.R (Kd.int .i64) 3 w' w.heap.size (fun k_ => (w.heap.size ≤ k_)) v3 x3_1) ∧ Aside0 (Below w.heap.size w w'))
  case atStart => exact ⟨(y113), (0), (by first | rfl | (simp; done) | (simp [*]; done)), H', ⟨Nat.le_refl _⟩, ⟨by (with_reducible repeat (first | apply Kd.R_alloc | apply Kd.R_drewN | apply Kd.R_drew)); exact Kd.R_mono HO115.out (fun _ hk => hk.1)⟩, ⟨by repeat (first | (with_reducible first | exact HB.out | apply below_alloc | apply pw_below_drewN | apply below_drew1) | exact HB.out)⟩⟩
  case round =>
    clear H'
    try clear p2
    try clear c3
    obtain ⟨x3_1, x10_1, rfl, HA, HK1, HO_3, HB⟩ := hrel
    cases gk with
    | zero => exact absurd HA.out (by simp [spec_Of.l0])
    | succ k1 =>
      have H := HA.out
      clear HA
      simp only [spec_Of.l0] at H
      by_cases c4 : x10_1 < (l0.length : Int)
      · rw [if_pos c4] at H
        have c4b0 : decide (x10_1 < (l0.length : Int)) = true := decide_eq_true c4
        clear c4
        by_cases c5 : 0 ≤ x10_1
        · rw [if_pos c5] at H
          have c5b0 : decide (0 ≤ x10_1) = true := decide_eq_true c5
          clear c5
          by_cases c6 : x10_1 < (l0.length : Int)
          · rw [if_pos c6] at H
            have c6b0 : decide (x10_1 < (l0.length : Int)) = true := decide_eq_true c6
            clear c6
            have H' := Aside0.mk H
            clear H
            have p119 : 0 ≤ (x10_1 : Int) := of_decide_eq_true (by first | (with_reducible assumption) | assumption)
            have q119 : x10_1 < (l0.length : Int) := of_decide_eq_true (by first | (with_reducible assumption) | assumption)
            obtain ⟨ad119, e119, hx119_0⟩ := Kd.at_int HR0.out x10_1 p119 q119
            cases e119
            replace hx119_0 := (HB.out.cell (World.block_lt_of_cell? w _ hx119_0)).trans hx119_0
            replace p119 := eq_true p119
            replace q119 := eq_true q119
            go_wp2
            go_loopg [3, 6] k1 (fun kq v3 v6 w' => ∃ (x3_2 : List Int) (x6_2 : Int), v6 = .int .i64 x6_2 ∧ Aside0 (spec_Of.l1 kq x3_2 (rd l0 x10_1) x6_2 l0 (l0.length : Int) x10_1 = some r) ∧ Aside0 (kq ≤ k1) ∧ Aside0 (Kd.R (Kd.int .i64) 3 w' w.heap.size (fun k_ => (w.heap.size ≤ k_)) v3 x3_2) ∧ Aside0 (Below w.heap.size w w'))
            case atStart => exact ⟨(x3_1), (0), (by first | rfl | (simp; done) | (simp [*]; done)), H', ⟨Nat.le_refl _⟩, ⟨by (with_reducible repeat (first | apply Kd.R_alloc | apply Kd.R_drewN | apply Kd.R_drew)); exact HO_3.out⟩, ⟨by repeat (first | (with_reducible first | exact HB.out | apply below_alloc | apply pw_below_drewN | apply below_drew1) | exact HB.out)⟩⟩
            case round =>
              clear H'
              try clear p1
              try clear q1
              try clear hx1
              try clear p2
              try clear c3
              try clear c4
              try clear c4b0
              try clear c5
              try clear c5b0
              try clear c6
              try clear c6b0
              try clear hx119_0
              try clear p119
              try clear p2
              try clear q119
              obtain ⟨x3_2, x6_2, rfl, HA, HK2, HO_3, HB⟩ := hrel
              cases gk with
              | zero => exact absurd HA.out (by simp [spec_Of.l1])
              | succ k2 =>
                have H := HA.out
                clear HA
                simp only [spec_Of.l1] at H
                by_cases c7 : x6_2 < 4
                · rw [if_pos c7] at H
                  have c7b0 : decide (x6_2 < 4) = true := decide_eq_true c7
                  clear c7
                  obtain ⟨ji8, hji8⟩ : ∃ j_ : Int, (wrap64 (16 * x6_2)) = j_ := ⟨_, rfl⟩
                  replace H : (if 0 ≤ (ji8) then (if x3_2.length < 17592186044416 then (spec_Of.l1 k2 (x3_2 ++ [wrap64 (Go.bits .and .u64 (shr .u64 (rd l0 x10_1) (ji8)) 65535)]) (rd l0 x10_1) (wrap64 (x6_2 + 1)) l0 (l0.length : Int) x10_1) else (none)) else (none)) = some r := by first | (rw [hji8] at H; exact H) | (simp only [hji8] at H ⊢; exact H)
                  have hji8w : (IntKind.i64.wrap (16 * x6_2)) = ji8 := (i64_w _).trans hji8
                  by_cases c9 : 0 ≤ (ji8)
                  · rw [if_pos c9] at H
                    have c9b0 := eq_true c9
                    have c9b1 : decide (0 ≤ (ji8)) = true := decide_eq_true c9
                    clear c9
                    obtain ⟨ji10, hji10⟩ : ∃ j_ : Int, (shr .u64 (rd l0 x10_1) (ji8)) = j_ := ⟨_, rfl⟩
                    replace H : (if x3_2.length < 17592186044416 then (spec_Of.l1 k2 (x3_2 ++ [wrap64 (Go.bits .and .u64 (ji10) 65535)]) (rd l0 x10_1) (wrap64 (x6_2 + 1)) l0 (l0.length : Int) x10_1) else (none)) = some r := by first | (rw [hji10] at H; exact H) | (simp only [hji10] at H ⊢; exact H)
                    have hji10_ : ((rd l0 x10_1) / 2 ^ min (ji8).toNat 64) = ji10 := hji10
                    have hji10z : (ji8) ≤ 64 → ((rd l0 x10_1) / 2 ^ (ji8).toNat) = ji10 := shr_small hji10
                    by_cases c11 : x3_2.length < 17592186044416
                    · rw [if_pos c11] at H
                      have LMc11 := Aside0.mk c11
                      clear c11
                      obtain ⟨y120, hy120⟩ : ∃ y_ : List Int, y_ = (x3_2 ++ [wrap64 (Go.bits .and .u64 (ji10) 65535)]) := ⟨_, rfl⟩
                      replace H : (spec_Of.l1 k2 y120 (rd l0 x10_1) (wrap64 (x6_2 + 1)) l0 (l0.length : Int) x10_1) = some r := by first | (rw [hy120]; with_reducible exact H) | (have H2_ := (Option.bind_some _ _).symm.trans H; rw [hy120]; with_reducible exact H2_) | (have H2_ := (Option.bind_some _ _).symm.trans H; with_reducible exact H2_) | with_reducible exact H | (rw [hy120]; exact H) | exact H
                      have Ny120 := Aside0.mk hy120
                      clear hy120
                      have H' := Aside0.mk H
                      clear H
                      go_wp2_with (first | ((with_reducible refine gate_builtin (b := .append) (xs := #[.tmp 18, .tmp 25]) rfl ?_); at_builtin; refine Kd.R_append (Kd.int .i64) (w0 := w) w.heap.size rfl (.tmp 18) (.tmp 25) 24 3 (.int .i64 0) 8 rfl Tryz.underlying24 info3 rfl (by decide) (by omega) u3 x3_2 (wrap64 (Go.bits .and .u64 (ji10) 65535)) [.int .i64 (wrap64 (Go.bits .and .u64 (ji10) 65535))] (fun k_ => (w.heap.size ≤ k_)) (fun _ => False) rfl rfl ?aP (fun _ hk => hk.elim) ?aF ?aO ?aB ?aS ?aL ?_; (case aP => exact rfl); (case aB => exact (by repeat (first | (with_reducible first | exact HB.out | apply below_alloc | apply pw_below_drewN | apply below_drew1) | exact HB.out))); (case aF => exact (fun k_ hk => (Nat.le_trans (below_size (by repeat (first | (with_reducible first | exact HB.out | apply below_alloc | apply pw_below_drewN | apply below_drew1) | exact HB.out))) hk))); (case aO => exact (by (with_reducible repeat (first | apply Kd.R_alloc | apply Kd.R_drewN | apply Kd.R_drew)); exact HO_3.out)); (case aS => exact (below_size (by repeat (first | (with_reducible first | exact HB.out | apply below_alloc | apply pw_below_drewN | apply below_drew1) | exact HB.out)))); (case aL => have := LMc11.out; omega); intro v121 w12 ho hb hg hat; rw [← Ny120.out] at ho; have n0_ := Aside0.mk (hb); have n1_ := Aside0.mk (ho); clear HB; clear HO_3; have HB := n0_; have HO122 := n1_; clear n0_ n1_; clear ho hb hg hat))
                      go_roundg k2
                      case measure => have := HK1.out; have := HK2.out; omega
                      case rel => exact ⟨(y120), (wrap64 (x6_2 + 1)), (by first | rfl | (simp; done) | (simp [*]; done)), H', ⟨by have := HK1.out; have := HK2.out; omega⟩, ⟨by (with_reducible repeat (first | apply Kd.R_alloc | apply Kd.R_drewN | apply Kd.R_drew)); exact HO122.out⟩, ⟨by repeat (first | (with_reducible first | exact HB.out | apply below_alloc | apply pw_below_drewN | apply below_drew1) | exact HB.out)⟩⟩
                    · rw [if_neg c11] at H
                      exact absurd H (by simp)
                  · rw [if_neg c9] at H
                    exact absurd H (by simp)
                · rw [if_neg c7] at H
                  have c7b0 : decide (x6_2 < 4) = false := decide_eq_false c7
                  clear c7
                  have H' := Aside0.mk H
                  clear H
                  go_wp2
                  go_roundg k2
                  case measure => have := HK1.out; have := HK2.out; omega
                  case rel => exact ⟨(x3_2), (wrap64 (x10_1 + 1)), (by first | rfl | (simp; done) | (simp [*]; done)), H', ⟨by have := HK1.out; have := HK2.out; omega⟩, ⟨by (with_reducible repeat (first | apply Kd.R_alloc | apply Kd.R_drewN | apply Kd.R_drew)); exact HO_3.out⟩, ⟨by repeat (first | (with_reducible first | exact HB.out | apply below_alloc | apply pw_below_drewN | apply below_drew1) | exact HB.out)⟩⟩
          · rw [if_neg c6] at H
            exact absurd H (by simp)
        · rw [if_neg c5] at H
          exact absurd H (by simp)
      · rw [if_neg c4] at H
        have c4b0 : decide (x10_1 < (l0.length : Int)) = false := decide_eq_false c4
        clear c4
        replace H := Option.bind_eq_some_iff.mp H
        obtain ⟨t116, A130, H⟩ := H
        replace H : (some t116) = some r := H
        have A13 := Aside0.mk A130
        clear A130
        obtain rfl := Option.some.inj H
        obtain ⟨Ao14, co14, eo14⟩ := Kd.R_slice HO_3.out
        subst eo14
        go_wp2_with (first | ((with_reducible refine gate_callee (f := 39) rfl ?_); refine goesL_ (some 29) rfl rfl Tryz.func39 (by kernel_rfl) rfl #[.slice Ao14 x3_1.length co14] rfl (by (try simp only [List.map_toArray, List.map_cons, List.map_nil]); first | done | rfl | (simp only [List.length_drop, List.length_take]; rfl)) ?_; (with_reducible refine (spec_trim.calls k1 (fun k_ => some k_ = (.slice Ao14 x3_1.length co14 : Value).ownBlock) _ _ x3_1 t116 _ ?side1 A13.out).mono ?_); (case side1 => exact Kd.R_V (Kd.R_tight rfl (HO_3.out))); rintro e w15 ⟨v117, rfl, ho0, hb⟩; refine ⟨_, rfl, ?_⟩; have n0_ := Aside0.mk (Kd.R_below (by (with_reducible repeat (first | apply Kd.R_alloc | apply Kd.R_drewN | apply Kd.R_drew)); exact HO_3.out) hb); have n1_ := Aside0.mk (Kd.V_lower (Kd.V_mono (ok' := fun k_ => (w.heap.size ≤ k_)) ho0 (fun k_ hk_ => Or.elim hk_ (fun hs_ => ((HO_3.out).1 k_ hs_.symm)) (fun hn_ => (Nat.le_trans (below_size (by repeat (first | (with_reducible first | exact HB.out | apply below_alloc | apply pw_below_drewN | apply below_drew1) | exact HB.out))) hn_)))) (below_size (by repeat (first | (with_reducible first | exact HB.out | apply below_alloc | apply pw_below_drewN | apply below_drew1) | exact HB.out)))); have n2_ := Aside0.mk (below_step (by repeat (first | (with_reducible first | exact HB.out | apply below_alloc | apply pw_below_drewN | apply below_drew1) | exact HB.out)) hb); clear HO_3; clear HB; have HO_3 := n0_; have HO118 := n1_; have HB := n2_; clear n0_ n1_ n2_; (try clear hb); (try clear hb2); (try clear hk); (try clear hi); (try clear ho0)))
        go_ret
        exact ⟨_, by first | rfl | (simp [errW_none, errW_some] <;> rfl) | (simp [*, errW_none, errW_some] <;> rfl), by (with_reducible repeat (first | apply Kd.V_alloc | apply Kd.V_drewN | apply Kd.V_drew)); exact HO118.out, by repeat (first | (with_reducible first | exact HB.out | apply below_alloc | apply pw_below_drewN | apply below_drew1) | exact HB.out)⟩

/-! ### spec_Of64: function 14 -/
def spec_Of64.f (k : Nat) (a0 : Int) : Option (Bool × List Int × List Int) := if a0 < 0 then ((spec_Of.f k (([IntKind.u64.wrap (-(IntKind.u64.wrap (a0)))] : List Int))).bind fun t127 => ((spec_Small.f k 1).bind fun t130 => (some (true, t127, t130)))) else ((spec_Of.f k (([IntKind.u64.wrap (a0)] : List Int))).bind fun t136 => ((spec_Small.f k 1).bind fun t139 => (some (false, t136, t139))))
theorem spec_Of64.mono : ∀ a0 k, LeO (spec_Of64.f k a0) (spec_Of64.f (k + 1) a0) := by
  intro a0 k
  unfold spec_Of64.f
  repeat' first
      | (with_reducible exact spec_Of.mono _ _)
      | (with_reducible exact spec_Small.mono _ _)
      | (with_reducible exact LeO.refl _)
      | (with_reducible exact LeO.none _)
      | (with_reducible refine LeO.ite ?_ ?_)
      | (with_reducible refine LeO.bind ?_ (fun _ => ?_))
      | exact spec_Of.mono _ _
      | exact spec_Small.mono _ _
      | exact LeO.none _
      | refine LeO.ite ?_ ?_
      | refine LeO.bind ?_ (fun _ => ?_)
set_option maxHeartbeats 8000000 in
set_option maxRecDepth 100000 in
theorem spec_Of64.calls (k : Nat) (a0 : Int) (r1 : Bool) (r2 : List Int) (r3 : List Int) (w : World) (h : spec_Of64.f k a0 = some (r1, r2, r3)) :
    Calls Tryz.prog 14 #[.int .i64 a0] w fun e w' => ∃ v1_ v2_ : Value, e = .returned (.agg #[.bool r1, v1_, v2_]) ∧ Kd.V (Kd.int .i64) 3 w' w.heap.size (fun k_ => (w.heap.size ≤ k_) ∧ some k_ ≠ (v2_ : Value).ownBlock) v1_ r2 ∧ Kd.R (Kd.int .i64) 3 w' w.heap.size (fun k_ => (w.heap.size ≤ k_)) v2_ r3 ∧ Below w.heap.size w w' := by
  have hu36 := Tryz.underlying36
  have HB := Aside0.mk (Below.refl w.heap.size w)
  have H : (if a0 < 0 then ((spec_Of.f k (([IntKind.u64.wrap (-(IntKind.u64.wrap (a0)))] : List Int))).bind fun t127 => ((spec_Small.f k 1).bind fun t130 => (some (true, t127, t130)))) else ((spec_Of.f k (([IntKind.u64.wrap (a0)] : List Int))).bind fun t136 => ((spec_Small.f k 1).bind fun t139 => (some (false, t136, t139))))) = some (r1, r2, r3) := h
  clear h
  by_cases c2 : a0 < 0
  · rw [if_pos c2] at H
    have c2b0 : decide (a0 < 0) = true := decide_eq_true c2
    clear c2
    obtain ⟨y124, hy124⟩ : ∃ y_ : List Int, y_ = (([IntKind.u64.wrap (-(IntKind.u64.wrap (a0)))] : List Int)) := ⟨_, rfl⟩
    replace H : ((spec_Of.f k y124).bind fun t127 => ((spec_Small.f k 1).bind fun t130 => (some (true, t127, t130)))) = some (r1, r2, r3) := by first | (rw [hy124]; with_reducible exact H) | (have H2_ := (Option.bind_some _ _).symm.trans H; rw [hy124]; with_reducible exact H2_) | (have H2_ := (Option.bind_some _ _).symm.trans H; with_reducible exact H2_) | with_reducible exact H | (rw [hy124]; exact H) | exact H
    have Ny124 := Aside0.mk hy124
    clear hy124
    replace H := Option.bind_eq_some_iff.mp H
    obtain ⟨t127, A30, H⟩ := H
    replace H : ((spec_Small.f k 1).bind fun t130 => (some (true, t127, t130))) = some (r1, r2, r3) := H
    have A3 := Aside0.mk A30
    clear A30
    replace H := Option.bind_eq_some_iff.mp H
    obtain ⟨t130, A40, H⟩ := H
    replace H : (some (true, t127, t130)) = some (r1, r2, r3) := H
    have A4 := Aside0.mk A40
    clear A40
    simp only [Option.some.injEq, Prod.mk.injEq] at H
    obtain ⟨rfl, rfl, rfl⟩ := H
    go_enter Tryz.func14, Tryz.ntmps14
    go_wp2_with (first | ((with_reducible refine gate_dst (N := 2) rfl ?_); refine box_event ?hg (N := 2) ?hd (cs := #[.bool false, .slice none 0 0, .slice none 0 0]) (t := 36) ?hr ?_; (case hd => rfl); (case hg => rfl); (case hr => first | (go_simp; done) | (go_simp; rfl)); intro gb123 hg w5 hbox hb; have n0_ := Aside0.mk (below_step (by repeat (first | (with_reducible first | exact HB.out | apply below_alloc | apply pw_below_drewN | apply below_drew1) | exact HB.out)) hb); have n1_ := Aside0.mk (hbox); have n2_ := Aside0.mk ((by rw [hg]; exact (below_size (by repeat (first | (with_reducible first | exact HB.out | apply below_alloc | apply pw_below_drewN | apply below_drew1) | exact HB.out))) : w.heap.size ≤ gb123)); have n3_ := Aside0.mk ((by rw [hg]; exact (below_size (by repeat (first | (with_reducible first | exact HB.out | apply below_alloc | apply pw_below_drewN | apply below_drew1) | exact HB.out))) : w.heap.size ≤ gb123)); clear HB; have HB := n0_; have BK123 := n1_; have GW123 := n2_; have GE123 := n3_; clear n0_ n1_ n2_ n3_; clear hb hbox hg) | ((with_reducible refine gate_dst (N := 8) rfl ?_); refine Kd.R_lit (Kd.int .u64) _ 48 ?hg (N := 8) ?hd (xs := ([IntKind.u64.wrap (-(IntKind.u64.wrap (a0)))] : List Int)) (inner := [.int .u64 (IntKind.u64.wrap (-(IntKind.u64.wrap (a0))))]) (ok := fun _ => True) (okp := fun _ => True) ?hr ?hp (fun _ hk => hk) trivial (Below.refl _ _) (Nat.le_refl _) (by simp) ?_; (case hd => rfl); (case hg => rfl); (case hr => first | (go_simp; done) | (go_simp; rfl)); (case hp => exact (Reps.one (show Kd.M (Kd.int .u64) _ _ _ (IntKind.u64.wrap (-(IntKind.u64.wrap (a0)))) [.int .u64 (IntKind.u64.wrap (-(IntKind.u64.wrap (a0))))] from rfl) (Reps.none _ _))); intro v125 w6 ho7 hb hg_ hnew_; clear hg_ hnew_; (first | rw [← Ny124.out] at ho7 | (simp only [Int.reduceToNat] at ho7; rw [← Ny124.out] at ho7)); have n0_ := Aside0.mk (Kd.R_lower (Kd.R_newM (M := fun k_ => (w.heap.size ≤ k_)) ho7 (below_size (by repeat (first | (with_reducible first | exact HB.out | apply below_alloc | apply pw_below_drewN | apply below_drew1 | refine below_set ?_ GE123.out) | exact HB.out))) (fun k_ h_ => h_)) (below_size (by repeat (first | (with_reducible first | exact HB.out | apply below_alloc | apply pw_below_drewN | apply below_drew1 | refine below_set ?_ GE123.out) | exact HB.out)))); have n1_ := Aside0.mk (blk_below (g := gb123) (o := .cells #[.bool false, .slice none 0 0, .slice none 0 0] 36 (0, 0)) (by (with_reducible repeat (first | refine blk_drewN ?_ _ | refine blk_drew ?_ | refine blk_alloc ?_ _)); exact BK123.out) hb); have n2_ := Aside0.mk (below_step (by repeat (first | (with_reducible first | exact HB.out | apply below_alloc | apply pw_below_drewN | apply below_drew1 | refine below_set ?_ GE123.out) | exact HB.out)) hb); clear BK123; clear HB; have HO126 := n0_; have BK123 := n1_; have HB := n2_; clear n0_ n1_ n2_; clear hb ho7; obtain ⟨Ao8, co8, eo8⟩ := Kd.R_slice HO126.out; subst eo8) | ((with_reducible refine gate_callee (f := 35) rfl ?_); refine goesL_ (some 9) rfl rfl Tryz.func35 (by kernel_rfl) rfl #[.slice Ao8 y124.length co8] rfl (by (try simp only [List.map_toArray, List.map_cons, List.map_nil]); first | done | rfl | (simp only [List.length_drop, List.length_take]; rfl)) ?_; (with_reducible refine (spec_Of.calls k _ _ y124 t127 _ ?side1 ?side2 A3.out).mono ?_); (case side1 => repeat (first | exact (Kd.R_reads' HO126.out).2.2 | (with_reducible refine Kd.C_alloc ?_ _) | (with_reducible refine Kd.C_drewN ?_ _) | (with_reducible refine Kd.C_drew ?_))); (case side2 => exact (Kd.R_reads' HO126.out).2.1); rintro e w9 ⟨v128, rfl, ho0, hb⟩; refine ⟨_, rfl, ?_⟩; have n0_ := Aside0.mk (Kd.R_below (by (with_reducible repeat (first | apply Kd.R_alloc | apply Kd.R_drewN | apply Kd.R_drew)); exact HO126.out) hb); have n1_ := Aside0.mk (Kd.V_lower (Kd.V_mono (ok' := fun k_ => (w.heap.size ≤ k_) ∧ some k_ ≠ (.slice Ao8 y124.length co8 : Value).ownBlock ∧ k_ ≠ gb123) ho0 (fun k_ hk_ => ⟨(Nat.le_trans (below_size (by repeat (first | (with_reducible first | exact HB.out | apply below_alloc | apply pw_below_drewN | apply below_drew1 | refine below_set ?_ GE123.out) | exact HB.out))) hk_), (Kd.fresh' (Kd.R_lt (by (with_reducible repeat (first | apply Kd.R_alloc | apply Kd.R_drewN | apply Kd.R_drew)); exact HO126.out)) k_ hk_), (Kd.freshB (g := gb123) (o := .cells #[.bool false, .slice none 0 0, .slice none 0 0] 36 (0, 0)) (by (with_reducible repeat (first | refine blk_drewN ?_ _ | refine blk_drew ?_ | refine blk_alloc ?_ _)); exact BK123.out) k_ hk_)⟩)) (below_size (by repeat (first | (with_reducible first | exact HB.out | apply below_alloc | apply pw_below_drewN | apply below_drew1 | refine below_set ?_ GE123.out) | exact HB.out)))); have n2_ := Aside0.mk (blk_below (g := gb123) (o := .cells #[.bool false, .slice none 0 0, .slice none 0 0] 36 (0, 0)) (by (with_reducible repeat (first | refine blk_drewN ?_ _ | refine blk_drew ?_ | refine blk_alloc ?_ _)); exact BK123.out) hb); have n3_ := Aside0.mk (below_step (by repeat (first | (with_reducible first | exact HB.out | apply below_alloc | apply pw_below_drewN | apply below_drew1 | refine below_set ?_ GE123.out) | exact HB.out)) hb); clear HO126; clear BK123; clear HB; have HO126 := n0_; have HO129 := n1_; have BK123 := n2_; have HB := n3_; clear n0_ n1_ n2_ n3_; (try clear hb); (try clear hb2); (try clear hk); (try clear hi); (try clear ho0)) | ((with_reducible refine gate_callee (f := 17) rfl ?_); refine goesL_ (some 10) rfl rfl Tryz.func17 (by kernel_rfl) rfl #[.int .i64 1] rfl (by (try simp only [List.map_toArray, List.map_cons, List.map_nil]); first | done | rfl | (simp only [List.length_drop, List.length_take]; rfl)) ?_; (with_reducible refine (spec_Small.calls k 1 t130 _ A4.out).mono ?_); rintro e w10 ⟨v131, rfl, ho0, hb⟩; refine ⟨_, rfl, ?_⟩; have n0_ := Aside0.mk (Kd.R_below (by (with_reducible repeat (first | apply Kd.R_alloc | apply Kd.R_drewN | apply Kd.R_drew)); exact HO126.out) hb); have n1_ := Aside0.mk (Kd.V_elder' (by (with_reducible repeat (first | apply Kd.V_alloc | apply Kd.V_drewN | apply Kd.V_drew)); exact HO129.out) (Kd.R_base ho0) hb); have n2_ := Aside0.mk (Kd.R_lower (Kd.R_newM (M := fun k_ => (w.heap.size ≤ k_)) ho0 (below_size (by repeat (first | (with_reducible first | exact HB.out | apply below_alloc | apply pw_below_drewN | apply below_drew1 | refine below_set ?_ GE123.out) | exact HB.out))) (fun k_ h_ => h_)) (below_size (by repeat (first | (with_reducible first | exact HB.out | apply below_alloc | apply pw_below_drewN | apply below_drew1 | refine below_set ?_ GE123.out) | exact HB.out)))); have n3_ := Aside0.mk (blk_below (g := gb123) (o := .cells #[.bool false, .slice none 0 0, .slice none 0 0] 36 (0, 0)) (by (with_reducible repeat (first | refine blk_drewN ?_ _ | refine blk_drew ?_ | refine blk_alloc ?_ _)); exact BK123.out) hb); have n4_ := Aside0.mk (below_step (by repeat (first | (with_reducible first | exact HB.out | apply below_alloc | apply pw_below_drewN | apply below_drew1 | refine below_set ?_ GE123.out) | exact HB.out)) hb); clear HO126; clear HO129; clear BK123; clear HB; have HO126 := n0_; have HO129 := n1_; have HO132 := n2_; have BK123 := n3_; have HB := n4_; clear n0_ n1_ n2_ n3_ n4_; (try clear hb); (try clear hb2); (try clear hk); (try clear hi); (try clear ho0); obtain ⟨Ao11, co11, eo11⟩ := Kd.R_slice HO132.out; subst eo11; obtain ⟨Ao12, co12, eo12⟩ := Kd.V_slice HO129.out; subst eo12; have hcz13_0 : w10.cell? ⟨gb123, 0, none⟩ = some (.bool false) := (blk_cell BK123.out 0).trans rfl; have hcz13_1 : w10.cell? ⟨gb123, 1, none⟩ = some (.slice none 0 0) := (blk_cell BK123.out 1).trans rfl; have hcz13_2 : w10.cell? ⟨gb123, 2, none⟩ = some (.slice none 0 0) := (blk_cell BK123.out 2).trans rfl; have hfz13_0 := blk_frozen BK123.out 0; have hfz13_1 := blk_frozen BK123.out 1; have hfz13_2 := blk_frozen BK123.out 2))
    refine bodyPost_ret (results_cell_row rfl _ _ gb123 36 #[.bool true, .slice Ao12 t127.length co12, .slice Ao11 t130.length co11] (0, 0) _ rfl (by (with_reducible repeat (first | refine blk_drewN ?_ _ | refine blk_drew ?_ | refine blk_alloc ?_ _)); refine blk_put (cs := #[.bool true, .slice Ao12 t127.length co12, .slice none 0 0]) ?_ 2 _ rfl; (with_reducible repeat (first | refine blk_drewN ?_ _ | refine blk_drew ?_ | refine blk_alloc ?_ _)); refine blk_put (cs := #[.bool true, .slice none 0 0, .slice none 0 0]) ?_ 1 _ rfl; (with_reducible repeat (first | refine blk_drewN ?_ _ | refine blk_drew ?_ | refine blk_alloc ?_ _)); refine blk_put (cs := #[.bool false, .slice none 0 0, .slice none 0 0]) ?_ 0 _ rfl; (with_reducible repeat (first | refine blk_drewN ?_ _ | refine blk_drew ?_ | refine blk_alloc ?_ _)); exact BK123.out) Tryz.underlying36 rfl (by kernel_rfl)) rfl ?_
    exact ⟨_, _, by first | rfl | (simp [errW_none, errW_some] <;> rfl) | (simp [*, errW_none, errW_some] <;> rfl), by (with_reducible repeat (first | apply Kd.V_alloc | apply Kd.V_drewN | apply Kd.V_drew)); exact Kd.V_mono (Kd.V_far (p := ⟨gb123, 2, none⟩) (Kd.V_far (p := ⟨gb123, 1, none⟩) (Kd.V_far (p := ⟨gb123, 0, none⟩) (Kd.V_mono HO129.out (fun k_ hk => (⟨hk, hk.1.2.2⟩ : _ ∧ k_ ≠ gb123))) (fun _ hk => hk.2) (.bool true)) (fun _ hk => hk.2) (.slice Ao12 t127.length co12)) (fun _ hk => hk.2) (.slice Ao11 t130.length co11)) (fun _ hk => ⟨hk.1.1.1, hk.1.2⟩), by (with_reducible repeat (first | apply Kd.R_alloc | apply Kd.R_drewN | apply Kd.R_drew)); exact Kd.R_mono (Kd.R_far (p := ⟨gb123, 2, none⟩) (Kd.R_far (p := ⟨gb123, 1, none⟩) (Kd.R_far (p := ⟨gb123, 0, none⟩) (Kd.R_types HO132.out BK123.out (by decide)) (fun _ hk => hk.2) (.bool true)) (fun _ hk => hk.2) (.slice Ao12 t127.length co12)) (fun _ hk => hk.2) (.slice Ao11 t130.length co11)) (fun _ hk => hk.1.1), by repeat (first | (with_reducible first | exact HB.out | apply below_alloc | apply pw_below_drewN | apply below_drew1 | refine below_set ?_ GE123.out) | exact HB.out)⟩
  · rw [if_neg c2] at H
    have c2b0 : decide (a0 < 0) = false := decide_eq_false c2
    clear c2
    obtain ⟨y133, hy133⟩ : ∃ y_ : List Int, y_ = (([IntKind.u64.wrap (a0)] : List Int)) := ⟨_, rfl⟩
    replace H : ((spec_Of.f k y133).bind fun t136 => ((spec_Small.f k 1).bind fun t139 => (some (false, t136, t139)))) = some (r1, r2, r3) := by first | (rw [hy133]; with_reducible exact H) | (have H2_ := (Option.bind_some _ _).symm.trans H; rw [hy133]; with_reducible exact H2_) | (have H2_ := (Option.bind_some _ _).symm.trans H; with_reducible exact H2_) | with_reducible exact H | (rw [hy133]; exact H) | exact H
    have Ny133 := Aside0.mk hy133
    clear hy133
    replace H := Option.bind_eq_some_iff.mp H
    obtain ⟨t136, A140, H⟩ := H
    replace H : ((spec_Small.f k 1).bind fun t139 => (some (false, t136, t139))) = some (r1, r2, r3) := H
    have A14 := Aside0.mk A140
    clear A140
    replace H := Option.bind_eq_some_iff.mp H
    obtain ⟨t139, A150, H⟩ := H
    replace H : (some (false, t136, t139)) = some (r1, r2, r3) := H
    have A15 := Aside0.mk A150
    clear A150
    simp only [Option.some.injEq, Prod.mk.injEq] at H
    obtain ⟨rfl, rfl, rfl⟩ := H
    go_enter Tryz.func14, Tryz.ntmps14
    go_wp2_with (first | ((with_reducible refine gate_dst (N := 2) rfl ?_); refine box_event ?hg (N := 2) ?hd (cs := #[.bool false, .slice none 0 0, .slice none 0 0]) (t := 36) ?hr ?_; (case hd => rfl); (case hg => rfl); (case hr => first | (go_simp; done) | (go_simp; rfl)); intro gb123 hg w16 hbox hb; have n0_ := Aside0.mk (below_step (by repeat (first | (with_reducible first | exact HB.out | apply below_alloc | apply pw_below_drewN | apply below_drew1) | exact HB.out)) hb); have n1_ := Aside0.mk (hbox); have n2_ := Aside0.mk ((by rw [hg]; exact (below_size (by repeat (first | (with_reducible first | exact HB.out | apply below_alloc | apply pw_below_drewN | apply below_drew1) | exact HB.out))) : w.heap.size ≤ gb123)); have n3_ := Aside0.mk ((by rw [hg]; exact (below_size (by repeat (first | (with_reducible first | exact HB.out | apply below_alloc | apply pw_below_drewN | apply below_drew1) | exact HB.out))) : w.heap.size ≤ gb123)); clear HB; have HB := n0_; have BK123 := n1_; have GW123 := n2_; have GE123 := n3_; clear n0_ n1_ n2_ n3_; clear hb hbox hg) | ((with_reducible refine gate_dst (N := 14) rfl ?_); refine Kd.R_lit (Kd.int .u64) _ 48 ?hg (N := 14) ?hd (xs := ([IntKind.u64.wrap (a0)] : List Int)) (inner := [.int .u64 (IntKind.u64.wrap (a0))]) (ok := fun _ => True) (okp := fun _ => True) ?hr ?hp (fun _ hk => hk) trivial (Below.refl _ _) (Nat.le_refl _) (by simp) ?_; (case hd => rfl); (case hg => rfl); (case hr => first | (go_simp; done) | (go_simp; rfl)); (case hp => exact (Reps.one (show Kd.M (Kd.int .u64) _ _ _ (IntKind.u64.wrap (a0)) [.int .u64 (IntKind.u64.wrap (a0))] from rfl) (Reps.none _ _))); intro v134 w17 ho18 hb hg_ hnew_; clear hg_ hnew_; (first | rw [← Ny133.out] at ho18 | (simp only [Int.reduceToNat] at ho18; rw [← Ny133.out] at ho18)); have n0_ := Aside0.mk (Kd.R_lower (Kd.R_newM (M := fun k_ => (w.heap.size ≤ k_)) ho18 (below_size (by repeat (first | (with_reducible first | exact HB.out | apply below_alloc | apply pw_below_drewN | apply below_drew1 | refine below_set ?_ GE123.out) | exact HB.out))) (fun k_ h_ => h_)) (below_size (by repeat (first | (with_reducible first | exact HB.out | apply below_alloc | apply pw_below_drewN | apply below_drew1 | refine below_set ?_ GE123.out) | exact HB.out)))); have n1_ := Aside0.mk (blk_below (g := gb123) (o := .cells #[.bool false, .slice none 0 0, .slice none 0 0] 36 (0, 0)) (by (with_reducible repeat (first | refine blk_drewN ?_ _ | refine blk_drew ?_ | refine blk_alloc ?_ _)); exact BK123.out) hb); have n2_ := Aside0.mk (below_step (by repeat (first | (with_reducible first | exact HB.out | apply below_alloc | apply pw_below_drewN | apply below_drew1 | refine below_set ?_ GE123.out) | exact HB.out)) hb); clear BK123; clear HB; have HO135 := n0_; have BK123 := n1_; have HB := n2_; clear n0_ n1_ n2_; clear hb ho18; obtain ⟨Ao19, co19, eo19⟩ := Kd.R_slice HO135.out; subst eo19) | ((with_reducible refine gate_callee (f := 35) rfl ?_); refine goesL_ (some 15) rfl rfl Tryz.func35 (by kernel_rfl) rfl #[.slice Ao19 y133.length co19] rfl (by (try simp only [List.map_toArray, List.map_cons, List.map_nil]); first | done | rfl | (simp only [List.length_drop, List.length_take]; rfl)) ?_; (with_reducible refine (spec_Of.calls k _ _ y133 t136 _ ?side1 ?side2 A14.out).mono ?_); (case side1 => repeat (first | exact (Kd.R_reads' HO135.out).2.2 | (with_reducible refine Kd.C_alloc ?_ _) | (with_reducible refine Kd.C_drewN ?_ _) | (with_reducible refine Kd.C_drew ?_))); (case side2 => exact (Kd.R_reads' HO135.out).2.1); rintro e w20 ⟨v137, rfl, ho0, hb⟩; refine ⟨_, rfl, ?_⟩; have n0_ := Aside0.mk (Kd.R_below (by (with_reducible repeat (first | apply Kd.R_alloc | apply Kd.R_drewN | apply Kd.R_drew)); exact HO135.out) hb); have n1_ := Aside0.mk (Kd.V_lower (Kd.V_mono (ok' := fun k_ => (w.heap.size ≤ k_) ∧ some k_ ≠ (.slice Ao19 y133.length co19 : Value).ownBlock ∧ k_ ≠ gb123) ho0 (fun k_ hk_ => ⟨(Nat.le_trans (below_size (by repeat (first | (with_reducible first | exact HB.out | apply below_alloc | apply pw_below_drewN | apply below_drew1 | refine below_set ?_ GE123.out) | exact HB.out))) hk_), (Kd.fresh' (Kd.R_lt (by (with_reducible repeat (first | apply Kd.R_alloc | apply Kd.R_drewN | apply Kd.R_drew)); exact HO135.out)) k_ hk_), (Kd.freshB (g := gb123) (o := .cells #[.bool false, .slice none 0 0, .slice none 0 0] 36 (0, 0)) (by (with_reducible repeat (first | refine blk_drewN ?_ _ | refine blk_drew ?_ | refine blk_alloc ?_ _)); exact BK123.out) k_ hk_)⟩)) (below_size (by repeat (first | (with_reducible first | exact HB.out | apply below_alloc | apply pw_below_drewN | apply below_drew1 | refine below_set ?_ GE123.out) | exact HB.out)))); have n2_ := Aside0.mk (blk_below (g := gb123) (o := .cells #[.bool false, .slice none 0 0, .slice none 0 0] 36 (0, 0)) (by (with_reducible repeat (first | refine blk_drewN ?_ _ | refine blk_drew ?_ | refine blk_alloc ?_ _)); exact BK123.out) hb); have n3_ := Aside0.mk (below_step (by repeat (first | (with_reducible first | exact HB.out | apply below_alloc | apply pw_below_drewN | apply below_drew1 | refine below_set ?_ GE123.out) | exact HB.out)) hb); clear HO135; clear BK123; clear HB; have HO135 := n0_; have HO138 := n1_; have BK123 := n2_; have HB := n3_; clear n0_ n1_ n2_ n3_; (try clear hb); (try clear hb2); (try clear hk); (try clear hi); (try clear ho0)) | ((with_reducible refine gate_callee (f := 17) rfl ?_); refine goesL_ (some 16) rfl rfl Tryz.func17 (by kernel_rfl) rfl #[.int .i64 1] rfl (by (try simp only [List.map_toArray, List.map_cons, List.map_nil]); first | done | rfl | (simp only [List.length_drop, List.length_take]; rfl)) ?_; (with_reducible refine (spec_Small.calls k 1 t139 _ A15.out).mono ?_); rintro e w21 ⟨v140, rfl, ho0, hb⟩; refine ⟨_, rfl, ?_⟩; have n0_ := Aside0.mk (Kd.R_below (by (with_reducible repeat (first | apply Kd.R_alloc | apply Kd.R_drewN | apply Kd.R_drew)); exact HO135.out) hb); have n1_ := Aside0.mk (Kd.V_elder' (by (with_reducible repeat (first | apply Kd.V_alloc | apply Kd.V_drewN | apply Kd.V_drew)); exact HO138.out) (Kd.R_base ho0) hb); have n2_ := Aside0.mk (Kd.R_lower (Kd.R_newM (M := fun k_ => (w.heap.size ≤ k_)) ho0 (below_size (by repeat (first | (with_reducible first | exact HB.out | apply below_alloc | apply pw_below_drewN | apply below_drew1 | refine below_set ?_ GE123.out) | exact HB.out))) (fun k_ h_ => h_)) (below_size (by repeat (first | (with_reducible first | exact HB.out | apply below_alloc | apply pw_below_drewN | apply below_drew1 | refine below_set ?_ GE123.out) | exact HB.out)))); have n3_ := Aside0.mk (blk_below (g := gb123) (o := .cells #[.bool false, .slice none 0 0, .slice none 0 0] 36 (0, 0)) (by (with_reducible repeat (first | refine blk_drewN ?_ _ | refine blk_drew ?_ | refine blk_alloc ?_ _)); exact BK123.out) hb); have n4_ := Aside0.mk (below_step (by repeat (first | (with_reducible first | exact HB.out | apply below_alloc | apply pw_below_drewN | apply below_drew1 | refine below_set ?_ GE123.out) | exact HB.out)) hb); clear HO135; clear HO138; clear BK123; clear HB; have HO135 := n0_; have HO138 := n1_; have HO141 := n2_; have BK123 := n3_; have HB := n4_; clear n0_ n1_ n2_ n3_ n4_; (try clear hb); (try clear hb2); (try clear hk); (try clear hi); (try clear ho0); obtain ⟨Ao22, co22, eo22⟩ := Kd.R_slice HO141.out; subst eo22; obtain ⟨Ao23, co23, eo23⟩ := Kd.V_slice HO138.out; subst eo23; have hcz24_0 : w21.cell? ⟨gb123, 0, none⟩ = some (.bool false) := (blk_cell BK123.out 0).trans rfl; have hcz24_1 : w21.cell? ⟨gb123, 1, none⟩ = some (.slice none 0 0) := (blk_cell BK123.out 1).trans rfl; have hcz24_2 : w21.cell? ⟨gb123, 2, none⟩ = some (.slice none 0 0) := (blk_cell BK123.out 2).trans rfl; have hfz24_0 := blk_frozen BK123.out 0; have hfz24_1 := blk_frozen BK123.out 1; have hfz24_2 := blk_frozen BK123.out 2))
    refine bodyPost_ret (results_cell_row rfl _ _ gb123 36 #[.bool false, .slice Ao23 t136.length co23, .slice Ao22 t139.length co22] (0, 0) _ rfl (by (with_reducible repeat (first | refine blk_drewN ?_ _ | refine blk_drew ?_ | refine blk_alloc ?_ _)); refine blk_put (cs := #[.bool false, .slice Ao23 t136.length co23, .slice none 0 0]) ?_ 2 _ rfl; (with_reducible repeat (first | refine blk_drewN ?_ _ | refine blk_drew ?_ | refine blk_alloc ?_ _)); refine blk_put (cs := #[.bool false, .slice none 0 0, .slice none 0 0]) ?_ 1 _ rfl; (with_reducible repeat (first | refine blk_drewN ?_ _ | refine blk_drew ?_ | refine blk_alloc ?_ _)); refine blk_put (cs := #[.bool false, .slice none 0 0, .slice none 0 0]) ?_ 0 _ rfl; (with_reducible repeat (first | refine blk_drewN ?_ _ | refine blk_drew ?_ | refine blk_alloc ?_ _)); exact BK123.out) Tryz.underlying36 rfl (by kernel_rfl)) rfl ?_
    exact ⟨_, _, by first | rfl | (simp [errW_none, errW_some] <;> rfl) | (simp [*, errW_none, errW_some] <;> rfl), by (with_reducible repeat (first | apply Kd.V_alloc | apply Kd.V_drewN | apply Kd.V_drew)); exact Kd.V_mono (Kd.V_far (p := ⟨gb123, 2, none⟩) (Kd.V_far (p := ⟨gb123, 1, none⟩) (Kd.V_far (p := ⟨gb123, 0, none⟩) (Kd.V_mono HO138.out (fun k_ hk => (⟨hk, hk.1.2.2⟩ : _ ∧ k_ ≠ gb123))) (fun _ hk => hk.2) (.bool false)) (fun _ hk => hk.2) (.slice Ao23 t136.length co23)) (fun _ hk => hk.2) (.slice Ao22 t139.length co22)) (fun _ hk => ⟨hk.1.1.1, hk.1.2⟩), by (with_reducible repeat (first | apply Kd.R_alloc | apply Kd.R_drewN | apply Kd.R_drew)); exact Kd.R_mono (Kd.R_far (p := ⟨gb123, 2, none⟩) (Kd.R_far (p := ⟨gb123, 1, none⟩) (Kd.R_far (p := ⟨gb123, 0, none⟩) (Kd.R_types HO141.out BK123.out (by decide)) (fun _ hk => hk.2) (.bool false)) (fun _ hk => hk.2) (.slice Ao23 t136.length co23)) (fun _ hk => hk.2) (.slice Ao22 t139.length co22)) (fun _ hk => hk.1.1), by repeat (first | (with_reducible first | exact HB.out | apply below_alloc | apply pw_below_drewN | apply below_drew1 | refine below_set ?_ GE123.out) | exact HB.out)⟩

/-! ### spec_Words: function 104 -/
def spec_Words.l0 : Nat → List Int → List Int → Int → Int → Option (List Int)
  | 0, _, _, _, _ => none
  | k + 1, x3, x7, x8, x9 => if x9 < x8 then (if 0 ≤ x9 then (if x9 < (x7.length : Int) then (if (Int.tmod x9 4) = 0 then (if x3.length < 17592186044416 then ((some (x3 ++ [0] : List Int)).bind fun y146 => (if 0 ≤ (wrap64 (Int.tdiv x9 4)) then (if (wrap64 (Int.tdiv x9 4)) < (y146.length : Int) then (if 0 ≤ (wrap64 (16 * (Int.tmod x9 4))) then (spec_Words.l0 k (y146.set ((wrap64 (Int.tdiv x9 4)) : Int).toNat (Go.bits .or .u64 (rd y146 (wrap64 (Int.tdiv x9 4))) (shl .u64 (IntKind.u64.wrap (rd x7 x9)) (wrap64 (16 * (Int.tmod x9 4)))))) x7 x8 (wrap64 (x9 + 1))) else (none)) else (none)) else (none))) else (none)) else (if 0 ≤ (wrap64 (Int.tdiv x9 4)) then (if (wrap64 (Int.tdiv x9 4)) < (x3.length : Int) then (if 0 ≤ (wrap64 (16 * (Int.tmod x9 4))) then (spec_Words.l0 k (x3.set ((wrap64 (Int.tdiv x9 4)) : Int).toNat (Go.bits .or .u64 (rd x3 (wrap64 (Int.tdiv x9 4))) (shl .u64 (IntKind.u64.wrap (rd x7 x9)) (wrap64 (16 * (Int.tmod x9 4)))))) x7 x8 (wrap64 (x9 + 1))) else (none)) else (none)) else (none))) else (none)) else (none)) else (some x3)
def spec_Words.f (k : Nat) (l0 : List Int) : Option (List Int) := spec_Words.l0 k (([] : List Int)) l0 (l0.length : Int) 0
theorem spec_Words.mono_l : ∀ k, (∀ y0 y1 y2 y3, LeO (spec_Words.l0 k y0 y1 y2 y3) (spec_Words.l0 (k + 1) y0 y1 y2 y3))
  | 0 => fun _ _ _ _ r h => by simp [spec_Words.l0] at h
  | k + 1 => by
    have ih0 := spec_Words.mono_l k
    · intro y0 y1 y2 y3
      unfold spec_Words.l0
      repeat' first
      | (with_reducible exact ih0 _ _ _ _)
      | (with_reducible exact LeO.refl _)
      | (with_reducible exact LeO.none _)
      | (with_reducible refine LeO.ite ?_ ?_)
      | (with_reducible refine LeO.bind ?_ (fun _ => ?_))
      | exact ih0 _ _ _ _
      | exact LeO.none _
      | refine LeO.ite ?_ ?_
      | refine LeO.bind ?_ (fun _ => ?_)
theorem spec_Words.mono : ∀ a0 k, LeO (spec_Words.f k a0) (spec_Words.f (k + 1) a0) := by
  intro a0 k
  have ih0 := spec_Words.mono_l k
  unfold spec_Words.f
  repeat' first
      | (with_reducible exact ih0 _ _ _ _)
      | (with_reducible exact LeO.refl _)
      | (with_reducible exact LeO.none _)
      | (with_reducible refine LeO.ite ?_ ?_)
      | (with_reducible refine LeO.bind ?_ (fun _ => ?_))
      | exact ih0 _ _ _ _
      | exact LeO.none _
      | refine LeO.ite ?_ ?_
      | refine LeO.bind ?_ (fun _ => ?_)
def spec_Words.T7 : Bool × List (List Nat × List Nat) := (true, [([], []), ([], []), ([1], [1]), ([0, 2], [0, 2]), ([3], [3]), ([], []), ([5], [5]), ([], []), ([7], [7]), ([8], [8]), ([6, 9], [6, 9]), ([4, 10], [4, 10]), ([0, 2, 0, 1, 2, 3, 4, 5, 6, 7, 8, 9, 10, 11], [0, 2]), ([12, 11, 0, 1, 2, 3, 4, 5, 6, 7, 8, 9, 10, 11], [11, 12])])
def spec_Words.B7 : List Nat := [0, 0, 2, 7, 15, 0, 32, 0, 128, 384, 992, 2047, 4095, 8191]
theorem spec_Words.tab7 : rtab .any (opsOf Tryz.f104 7) = spec_Words.T7 := by kernel_rfl
theorem spec_Words.bits7 : waitsOk spec_Words.T7.2 spec_Words.B7 = true := by kernel_rfl
set_option maxHeartbeats 8000000 in
set_option maxRecDepth 100000 in
theorem spec_Words.calls (k : Nat) (A0 : Option Addr) (c0 : Nat) (l0 : List Int) (r : List Int) (w : World) (hr0 : Kd.C (Kd.int .i64) w A0 l0.length l0) (hc0 : l0.length ≤ c0) (h : spec_Words.f k l0 = some r) :
    Calls Tryz.prog 104 #[.slice A0 l0.length c0] w fun e w' => ∃ v0_ : Value, e = .returned (v0_) ∧ Kd.R (Kd.int .u64) 48 w' w.heap.size (fun _ => True) v0_ r ∧ Below w.heap.size w w' := by
  have HR0 := Aside0.mk hr0
  have HC0 := Aside0.mk hc0
  clear hr0 hc0
  have HB := Aside0.mk (Below.refl w.heap.size w)
  have H : (spec_Words.l0 k (([] : List Int)) l0 (l0.length : Int) 0) = some r := h
  clear h
  obtain ⟨y142, hy142⟩ : ∃ y_ : List Int, y_ = (([] : List Int)) := ⟨_, rfl⟩
  replace H : (spec_Words.l0 k y142 l0 (l0.length : Int) 0) = some r := by first | (rw [hy142]; with_reducible exact H) | (have H2_ := (Option.bind_some _ _).symm.trans H; rw [hy142]; with_reducible exact H2_) | (have H2_ := (Option.bind_some _ _).symm.trans H; with_reducible exact H2_) | with_reducible exact H | (rw [hy142]; exact H) | exact H
  have Ny142 := Aside0.mk hy142
  clear hy142
  have H' := Aside0.mk H
  clear H
  go_enter Tryz.func104, Tryz.ntmps104
  go_wp2_with (first | ((with_reducible refine gate_dst (N := 6) rfl ?_); refine Kd.R_lit (Kd.int .u64) _ 48 ?hg (N := 6) ?hd (xs := ([] : List Int)) (inner := []) (ok := fun _ => True) (okp := fun _ => True) ?hr ?hp (fun _ hk => hk) trivial (Below.refl _ _) (Nat.le_refl _) (by simp) ?_; (case hd => rfl); (case hg => rfl); (case hr => first | (go_simp; done) | (go_simp; rfl)); (case hp => exact (Reps.none _ _)); intro v143 w2 ho3 hb hg_ hnew_; clear hg_ hnew_; (first | rw [← Ny142.out] at ho3 | (simp only [Int.reduceToNat] at ho3; rw [← Ny142.out] at ho3)); have n0_ := Aside0.mk (Kd.R_lower ho3 (below_size (by repeat (first | (with_reducible first | exact HB.out | apply below_alloc | apply pw_below_drewN | apply below_drew1) | exact HB.out)))); have n1_ := Aside0.mk (below_step (by repeat (first | (with_reducible first | exact HB.out | apply below_alloc | apply pw_below_drewN | apply below_drew1) | exact HB.out)) hb); clear HB; have HO144 := n0_; have HB := n1_; clear n0_ n1_; clear hb ho3))
  go_loopg [3, 9] k (fun kq v3 v9 w' => ∃ (x3_1 : List Int) (x9_1 : Int), v9 = .int .i64 x9_1 ∧ Aside0 (spec_Words.l0 kq x3_1 l0 (l0.length : Int) x9_1 = some r) ∧ Aside0 (kq ≤ k) ∧ Aside0 (Kd.R (Kd.int .u64) 48 w' w.heap.size (fun _ => True) v3 x3_1) ∧ Aside0 (Below w.heap.size w w'))
  case atStart => exact ⟨(y142), (0), (by first | rfl | (simp; done) | (simp [*]; done)), H', ⟨Nat.le_refl _⟩, ⟨by (with_reducible repeat (first | apply Kd.R_alloc | apply Kd.R_drewN | apply Kd.R_drew)); exact HO144.out⟩, ⟨by repeat (first | (with_reducible first | exact HB.out | apply below_alloc | apply pw_below_drewN | apply below_drew1) | exact HB.out)⟩⟩
  case round =>
    clear H'
    try clear c1
    try clear p2
    obtain ⟨x3_1, x9_1, rfl, HA, HK1, HO_3, HB⟩ := hrel
    cases gk with
    | zero => exact absurd HA.out (by simp [spec_Words.l0])
    | succ k1 =>
      have H := HA.out
      clear HA
      simp only [spec_Words.l0] at H
      by_cases c4 : x9_1 < (l0.length : Int)
      · rw [if_pos c4] at H
        have c4b0 : decide (x9_1 < (l0.length : Int)) = true := decide_eq_true c4
        clear c4
        by_cases c5 : 0 ≤ x9_1
        · rw [if_pos c5] at H
          have c5b0 : decide (0 ≤ x9_1) = true := decide_eq_true c5
          clear c5
          by_cases c6 : x9_1 < (l0.length : Int)
          · rw [if_pos c6] at H
            have c6b0 : decide (x9_1 < (l0.length : Int)) = true := decide_eq_true c6
            clear c6
            by_cases c7 : (Int.tmod x9_1 4) = 0
            · rw [if_pos c7] at H
              have c7b0 : ((Int.tmod x9_1 4) == 0) = true := beq_iff_eq.mpr c7
              have c7b1 : ((Int.tmod x9_1 4) != 0) = false := bne_eq_false_iff_eq.mpr c7
              clear c7
              by_cases c8 : x3_1.length < 17592186044416
              · rw [if_pos c8] at H
                have LMc8 := Aside0.mk c8
                clear c8
                obtain ⟨y146, hy146⟩ : ∃ y_ : List Int, y_ = (x3_1 ++ [0]) := ⟨_, rfl⟩
                replace H : (if 0 ≤ (wrap64 (Int.tdiv x9_1 4)) then (if (wrap64 (Int.tdiv x9_1 4)) < (y146.length : Int) then (if 0 ≤ (wrap64 (16 * (Int.tmod x9_1 4))) then (spec_Words.l0 k1 (y146.set ((wrap64 (Int.tdiv x9_1 4)) : Int).toNat (Go.bits .or .u64 (rd y146 (wrap64 (Int.tdiv x9_1 4))) (shl .u64 (IntKind.u64.wrap (rd l0 x9_1)) (wrap64 (16 * (Int.tmod x9_1 4)))))) l0 (l0.length : Int) (wrap64 (x9_1 + 1))) else (none)) else (none)) else (none)) = some r := by first | (rw [hy146]; with_reducible exact H) | (have H2_ := (Option.bind_some _ _).symm.trans H; rw [hy146]; with_reducible exact H2_) | (have H2_ := (Option.bind_some _ _).symm.trans H; with_reducible exact H2_) | with_reducible exact H | (rw [hy146]; exact H) | exact H
                have Ny146 := Aside0.mk hy146
                clear hy146
                obtain ⟨ji9, hji9⟩ : ∃ j_ : Int, (wrap64 (Int.tdiv x9_1 4)) = j_ := ⟨_, rfl⟩
                replace H : (if 0 ≤ (ji9) then (if (ji9) < (y146.length : Int) then (if 0 ≤ (wrap64 (16 * (Int.tmod x9_1 4))) then (spec_Words.l0 k1 (y146.set ((ji9) : Int).toNat (Go.bits .or .u64 (rd y146 (ji9)) (shl .u64 (IntKind.u64.wrap (rd l0 x9_1)) (wrap64 (16 * (Int.tmod x9_1 4)))))) l0 (l0.length : Int) (wrap64 (x9_1 + 1))) else (none)) else (none)) else (none)) = some r := by first | (rw [hji9] at H; exact H) | (simp only [hji9] at H ⊢; exact H)
                have hji9w : (IntKind.i64.wrap (Int.tdiv x9_1 4)) = ji9 := (i64_w _).trans hji9
                by_cases c10 : 0 ≤ (ji9)
                · rw [if_pos c10] at H
                  have c10b0 : decide (0 ≤ (ji9)) = true := decide_eq_true c10
                  clear c10
                  by_cases c11 : (ji9) < (y146.length : Int)
                  · rw [if_pos c11] at H
                    have c11b0 : decide ((ji9) < (y146.length : Int)) = true := decide_eq_true c11
                    clear c11
                    obtain ⟨ji12, hji12⟩ : ∃ j_ : Int, (wrap64 (16 * (Int.tmod x9_1 4))) = j_ := ⟨_, rfl⟩
                    replace H : (if 0 ≤ (ji12) then (spec_Words.l0 k1 (y146.set ((ji9) : Int).toNat (Go.bits .or .u64 (rd y146 (ji9)) (shl .u64 (IntKind.u64.wrap (rd l0 x9_1)) (ji12)))) l0 (l0.length : Int) (wrap64 (x9_1 + 1))) else (none)) = some r := by first | (rw [hji12] at H; exact H) | (simp only [hji12] at H ⊢; exact H)
                    have hji12w : (IntKind.i64.wrap (16 * (Int.tmod x9_1 4))) = ji12 := (i64_w _).trans hji12
                    by_cases c13 : 0 ≤ (ji12)
                    · rw [if_pos c13] at H
                      have c13b0 := eq_true c13
                      have c13b1 : decide (0 ≤ (ji12)) = true := decide_eq_true c13
                      clear c13
                      obtain ⟨ji14, hji14⟩ : ∃ j_ : Int, (shl .u64 (IntKind.u64.wrap (rd l0 x9_1)) (ji12)) = j_ := ⟨_, rfl⟩
                      replace H : (spec_Words.l0 k1 (y146.set ((ji9) : Int).toNat (Go.bits .or .u64 (rd y146 (ji9)) (ji14))) l0 (l0.length : Int) (wrap64 (x9_1 + 1))) = some r := by first | (rw [hji14] at H; exact H) | (simp only [hji14] at H ⊢; exact H)
                      have hji14_ : (IntKind.u64.wrap ((IntKind.u64.wrap (rd l0 x9_1)) * 2 ^ min (ji12).toNat 64)) = ji14 := hji14
                      have hji14z : (ji12) ≤ 64 → (IntKind.u64.wrap ((IntKind.u64.wrap (rd l0 x9_1)) * 2 ^ (ji12).toNat)) = ji14 := shl_small hji14
                      obtain ⟨y150, hy150⟩ : ∃ y_ : List Int, y_ = (y146.set ((ji9) : Int).toNat (Go.bits .or .u64 (rd y146 (ji9)) (ji14))) := ⟨_, rfl⟩
                      replace H : (spec_Words.l0 k1 y150 l0 (l0.length : Int) (wrap64 (x9_1 + 1))) = some r := by first | (rw [hy150]; with_reducible exact H) | (have H2_ := (Option.bind_some _ _).symm.trans H; rw [hy150]; with_reducible exact H2_) | (have H2_ := (Option.bind_some _ _).symm.trans H; with_reducible exact H2_) | with_reducible exact H | (rw [hy150]; exact H) | exact H
                      have Ny150 := Aside0.mk hy150
                      clear hy150
                      have H' := Aside0.mk H
                      clear H
                      have p145 : 0 ≤ (x9_1 : Int) := of_decide_eq_true (by first | (with_reducible assumption) | assumption)
                      have q145 : x9_1 < (l0.length : Int) := of_decide_eq_true (by first | (with_reducible assumption) | assumption)
                      obtain ⟨ad145, e145, hx145_0⟩ := Kd.at_int HR0.out x9_1 p145 q145
                      cases e145
                      replace hx145_0 := (HB.out.cell (World.block_lt_of_cell? w _ hx145_0)).trans hx145_0
                      replace p145 := eq_true p145
                      replace q145 := eq_true q145
                      try go_wp2_with (first | ((with_reducible refine gate_builtin (b := .append) (xs := #[.tmp 17, .tmp 18]) rfl ?_); at_builtin; refine Kd.R_append (Kd.int .u64) (w0 := w) w.heap.size rfl (.tmp 17) (.tmp 18) 27 48 (.int .u64 0) 8 rfl Tryz.underlying27 info48 rfl (by decide) (by omega) u3 x3_1 0 [.int .u64 0] (fun _ => True) (fun _ => False) rfl rfl ?aP (fun _ hk => hk.elim) ?aF ?aO ?aB ?aS ?aL ?_; (case aP => exact rfl); (case aB => exact (by repeat (first | (with_reducible first | exact HB.out | apply below_alloc | apply pw_below_drewN | apply below_drew1) | exact HB.out))); (case aF => exact (fun _ _ => trivial)); (case aO => exact (by (with_reducible repeat (first | apply Kd.R_alloc | apply Kd.R_drewN | apply Kd.R_drew)); exact HO_3.out)); (case aS => exact (below_size (by repeat (first | (with_reducible first | exact HB.out | apply below_alloc | apply pw_below_drewN | apply below_drew1) | exact HB.out)))); (case aL => have := LMc8.out; omega); intro v147 w16 ho hb hg hat; rw [← Ny146.out] at ho; have n0_ := Aside0.mk (hb); have n1_ := Aside0.mk (ho); clear HB; clear HO_3; have HB := n0_; have HO148 := n1_; clear n0_ n1_; clear ho hb hg hat))
                      have n0_ := Aside0.mk (Kd.R_drew HO148.out)
                      have n1_ := Aside0.mk (below_drew1 HB.out)
                      clear HO148
                      clear HB
                      have HO148 := n0_
                      have HB := n1_
                      clear n0_ n1_
                      obtain ⟨Ao18, co18, eo18⟩ := Kd.R_slice HO148.out
                      (first | subst eo18 | (injection eo18 with f1_ f2_ f3_; have f4_ := f1_.symm; have f5_ := f3_.symm; clear f1_ f2_ f3_; subst f4_; subst f5_))
                      have p149 : 0 ≤ ((ji9) : Int) := of_decide_eq_true (by first | (with_reducible assumption) | assumption)
                      have q149 : (ji9) < (y146.length : Int) := of_decide_eq_true (by first | (with_reducible assumption) | assumption)
                      obtain ⟨ad149, e149, hx149_0⟩ := Kd.at_int (Kd.R_reads' HO148.out).2.2 (ji9) p149 q149
                      cases e149
                      replace p149 := eq_true p149
                      replace q149 := eq_true q149
                      have p15 : 0 ≤ ((ji9) : Int) := of_decide_eq_true (by first | (with_reducible assumption) | assumption)
                      have q15 : ((ji9) : Int) < ((y146.length : Int) : Int) := of_decide_eq_true (by first | (with_reducible assumption) | assumption)
                      obtain ⟨go15, co15, eo15, gb15, gl15, cl15, HG15⟩ := Kd.R_form HO148.out (by omega)
                      (first | cases eo15 | (injection eo15 with ea_ en_ ec_; (first | subst ea_ | (injection ea_ with ea_; subst ea_)); subst ec_; clear en_))
                      have GB15 := Aside0.mk gb15
                      have GG15 := Aside0.mk HG15
                      clear gb15 gl15 HG15
                      (first | simp only [add_plain] at hx149_0 | skip)
                      obtain ⟨hx15_0, hf15_0⟩ := Kd.R_celln 0 HO148.out ((ji9) : Int) p15 q15
                      replace p15 := eq_true p15
                      replace q15 := eq_true q15
                      have HP19 := Kd.R_putn HO148.out ((ji9) : Int) (Go.bits .or .u64 (rd y146 (ji9)) (ji14))
                      rw [← Ny150.out] at HP19
                      have HQ19 := Aside0.mk HP19
                      clear HP19
                      refine start_ (n := 14) (S := fun w' => w'.cell? ⟨go15, ((ji9)).toNat, none⟩ = some (.int .u64 (rd y146 (ji9)))) (ds := [13]) #[false, false, false, false, false, false, false, false, false, false, false, false, false, false] (by kernel_rfl) rfl rfl (hx149_0) (fun hHeld => ?_); refine with_tabW spec_Words.tab7 spec_Words.bits7 (fun HT_ HW_ => ?_)
                      generalize w16.drew = w17 at HO148 HB GG15 HQ19 hf15_0 hx149_0 hx15_0 hHeld ⊢
                      refine pure_ (i := 0) (N := some 20) (v := ?_) (a' := ?_) #[true, false, false, false, false, false, false, false, false, false, false, false, false, false] rfl rfl (any_of HT_.out (by kernel_rfl)) (fun _ _ _ h => h) (Or.inl ⟨by rfl, ?_⟩) ?_ ?_
                      rotate_left
                      · intro w'
                        go_simp
                        with_reducible rfl
                      rotate_left
                      · simp only [Act.put, List.setIfInBounds_toArray, List.set_cons_zero, List.set_cons_succ, i64_w, i32_w]
                        rfl
                      refine pure_ (i := 1) (N := some 21) (v := ?_) (a' := ?_) #[true, true, false, false, false, false, false, false, false, false, false, false, false, false] rfl rfl (any_of HT_.out (by kernel_rfl)) (fun _ _ _ h => h) (Or.inl ⟨by rfl, ?_⟩) ?_ ?_
                      rotate_left
                      · intro w'
                        go_simp
                        with_reducible rfl
                      rotate_left
                      · simp only [Act.put, List.setIfInBounds_toArray, List.set_cons_zero, List.set_cons_succ, i64_w, i32_w]
                        rfl
                      refine pure_ (i := 2) (N := some 22) (v := ?_) (a' := ?_) #[true, true, true, false, false, false, false, false, false, false, false, false, false, false] rfl rfl (any_of HT_.out (by kernel_rfl)) (fun _ _ _ h => h) (Or.inl ⟨by rfl, ?_⟩) ?_ ?_
                      rotate_left
                      · intro w'
                        go_simp
                        with_reducible rfl
                      rotate_left
                      · simp only [Act.put, List.setIfInBounds_toArray, List.set_cons_zero, List.set_cons_succ, i64_w, i32_w]
                        rfl
                      refine pure_ (i := 3) (N := some 23) (v := ?_) (a' := ?_) #[true, true, true, true, false, false, false, false, false, false, false, false, false, false] rfl rfl (any_of HT_.out (by kernel_rfl)) (fun _ _ _ h => h) (Or.inl ⟨by rfl, ?_⟩) ?_ ?_
                      rotate_left
                      · intro w'
                        go_simp
                        with_reducible rfl
                      rotate_left
                      · simp only [Act.put, List.setIfInBounds_toArray, List.set_cons_zero, List.set_cons_succ, i64_w, i32_w]
                        rfl
                      refine pure_ (i := 5) (N := some 25) (v := ?_) (a' := ?_) #[true, true, true, true, false, true, false, false, false, false, false, false, false, false] rfl rfl (any_of HT_.out (by kernel_rfl)) (fun _ _ _ h => h) (Or.inl ⟨by rfl, ?_⟩) ?_ ?_
                      rotate_left
                      · intro w'
                        go_simp
                        with_reducible rfl
                      rotate_left
                      · simp only [Act.put, List.setIfInBounds_toArray, List.set_cons_zero, List.set_cons_succ, i64_w, i32_w]
                        rfl
                      refine pure_ (i := 6) (N := some 26) (v := ?_) (a' := ?_) #[true, true, true, true, false, true, true, false, false, false, false, false, false, false] rfl rfl (any_of HT_.out (by kernel_rfl)) (fun _ _ _ h => h) (Or.inl ⟨by rfl, ?_⟩) ?_ ?_
                      rotate_left
                      · intro w'
                        go_simp
                        with_reducible rfl
                      rotate_left
                      · simp only [Act.put, List.setIfInBounds_toArray, List.set_cons_zero, List.set_cons_succ, i64_w, i32_w]
                        rfl
                      refine pure_ (i := 7) (N := some 27) (v := ?_) (a' := ?_) #[true, true, true, true, false, true, true, true, false, false, false, false, false, false] rfl rfl (any_of HT_.out (by kernel_rfl)) (fun _ _ _ h => h) (Or.inl ⟨by rfl, ?_⟩) ?_ ?_
                      rotate_left
                      · intro w'
                        go_simp
                        with_reducible rfl
                      rotate_left
                      · simp only [Act.put, List.setIfInBounds_toArray, List.set_cons_zero, List.set_cons_succ, i64_w, i32_w]
                        rfl
                      refine pure_ (i := 8) (N := some 28) (v := ?_) (a' := ?_) #[true, true, true, true, false, true, true, true, true, false, false, false, false, false] rfl rfl (any_of HT_.out (by kernel_rfl)) (fun _ _ _ h => h) (Or.inl ⟨by rfl, ?_⟩) ?_ ?_
                      rotate_left
                      · intro w'
                        go_simp
                        with_reducible rfl
                      rotate_left
                      · simp only [Act.put, List.setIfInBounds_toArray, List.set_cons_zero, List.set_cons_succ, i64_w, i32_w]
                        rfl
                      refine pure_ (i := 9) (N := some 29) (v := ?_) (a' := ?_) #[true, true, true, true, false, true, true, true, true, true, false, false, false, false] rfl rfl (any_of HT_.out (by kernel_rfl)) (fun _ _ _ h => h) (Or.inl ⟨by rfl, ?_⟩) ?_ ?_
                      rotate_left
                      · intro w'
                        go_simp
                        with_reducible rfl
                      rotate_left
                      · simp only [Act.put, List.setIfInBounds_toArray, List.set_cons_zero, List.set_cons_succ, i64_w, i32_w]
                        rfl
                      refine pure_ (i := 10) (N := some 30) (v := ?_) (a' := ?_) #[true, true, true, true, false, true, true, true, true, true, true, false, false, false] rfl rfl (any_of HT_.out (by kernel_rfl)) (fun _ _ _ h => h) (Or.inl ⟨by rfl, ?_⟩) ?_ ?_
                      rotate_left
                      · intro w'
                        go_simp
                        with_reducible rfl
                      rotate_left
                      · simp only [Act.put, List.setIfInBounds_toArray, List.set_cons_zero, List.set_cons_succ, i64_w, i32_w]
                        rfl
                      refine take_ (i := 4) (N := some 24) (v := ?_) (a' := ?_) #[true, true, true, true, true, true, true, true, true, true, true, false, false, false] rfl rfl (take_ofW HT_.out HW_.out (by kernel_rfl)) (fun _ _ _ h => h) (Or.inl ⟨by rfl, ?_⟩) hHeld ?_ ?_
                      rotate_left
                      · intro w' s0
                        go_simp
                        with_reducible rfl
                      rotate_left
                      · simp only [Act.put, List.setIfInBounds_toArray, List.set_cons_zero, List.set_cons_succ, i64_w, i32_w]
                        rfl
                      refine pure_ (i := 11) (N := some 31) (v := ?_) (a' := ?_) #[true, true, true, true, true, true, true, true, true, true, true, true, false, false] rfl rfl (any_of HT_.out (by kernel_rfl)) (fun _ _ _ h => h) (Or.inl ⟨by rfl, ?_⟩) ?_ ?_
                      rotate_left
                      · intro w'
                        go_simp
                        with_reducible rfl
                      rotate_left
                      · simp only [Act.put, List.setIfInBounds_toArray, List.set_cons_zero, List.set_cons_succ, i64_w, i32_w]
                        rfl
                      refine pure_ (i := 12) (N := some 32) (v := ?_) (a' := ?_) #[true, true, true, true, true, true, true, true, true, true, true, true, true, false] rfl rfl (any_of HT_.out (by kernel_rfl)) (fun _ _ _ h => h) (Or.inl ⟨by rfl, ?_⟩) ?_ ?_
                      rotate_left
                      · intro w'
                        go_simp
                        with_reducible rfl
                      rotate_left
                      · simp only [Act.put, List.setIfInBounds_toArray, List.set_cons_zero, List.set_cons_succ, i64_w, i32_w]
                        rfl
                      refine last_ (i := 13) (N := none) #[true, true, true, true, true, true, true, true, true, true, true, true, true, true] rfl rfl (one_of HT_.out (by kernel_rfl)) (by decide) (fun K hK => ?_)
                      refine skip_ (w1 := ?_) (by rfl) rfl ?_ ?_
                      rotate_left
                      · go_simp
                        rfl
                      refine hK.out _ _ ?_
                      clear hK K
                      refine done_ (done_of HT_.out (by kernel_rfl)) ?_
                      try go_wp2
                      go_roundg k1
                      case measure => have := HK1.out; omega
                      case rel => exact ⟨(y150), (wrap64 (x9_1 + 1)), (by first | rfl | (simp; done) | (simp [*]; done)), H', ⟨by have := HK1.out; omega⟩, ⟨by (with_reducible repeat (first | apply Kd.R_alloc | apply Kd.R_drewN | apply Kd.R_drew)); exact HQ19.out⟩, ⟨by repeat (first | (with_reducible first | exact HB.out | apply below_alloc | apply pw_below_drewN | apply below_drew1 | refine below_set ?_ GB15.out) | exact HB.out)⟩⟩
                    · rw [if_neg c13] at H
                      exact absurd H (by simp)
                  · rw [if_neg c11] at H
                    exact absurd H (by simp)
                · rw [if_neg c10] at H
                  exact absurd H (by simp)
              · rw [if_neg c8] at H
                exact absurd H (by simp)
            · rw [if_neg c7] at H
              have c7b0 : ((Int.tmod x9_1 4) == 0) = false := beq_eq_false_iff_ne.mpr c7
              have c7b1 : ((Int.tmod x9_1 4) != 0) = true := bne_iff_ne.mpr c7
              obtain ⟨ji20, hji20⟩ : ∃ j_ : Int, (wrap64 (Int.tdiv x9_1 4)) = j_ := ⟨_, rfl⟩
              replace H : (if 0 ≤ (ji20) then (if (ji20) < (x3_1.length : Int) then (if 0 ≤ (wrap64 (16 * (Int.tmod x9_1 4))) then (spec_Words.l0 k1 (x3_1.set ((ji20) : Int).toNat (Go.bits .or .u64 (rd x3_1 (ji20)) (shl .u64 (IntKind.u64.wrap (rd l0 x9_1)) (wrap64 (16 * (Int.tmod x9_1 4)))))) l0 (l0.length : Int) (wrap64 (x9_1 + 1))) else (none)) else (none)) else (none)) = some r := by first | (rw [hji20] at H; exact H) | (simp only [hji20] at H ⊢; exact H)
              have hji20w : (IntKind.i64.wrap (Int.tdiv x9_1 4)) = ji20 := (i64_w _).trans hji20
              by_cases c21 : 0 ≤ (ji20)
              · rw [if_pos c21] at H
                have c21b0 : decide (0 ≤ (ji20)) = true := decide_eq_true c21
                clear c21
                by_cases c22 : (ji20) < (x3_1.length : Int)
                · rw [if_pos c22] at H
                  have c22b0 : decide ((ji20) < (x3_1.length : Int)) = true := decide_eq_true c22
                  clear c22
                  obtain ⟨ji23, hji23⟩ : ∃ j_ : Int, (wrap64 (16 * (Int.tmod x9_1 4))) = j_ := ⟨_, rfl⟩
                  replace H : (if 0 ≤ (ji23) then (spec_Words.l0 k1 (x3_1.set ((ji20) : Int).toNat (Go.bits .or .u64 (rd x3_1 (ji20)) (shl .u64 (IntKind.u64.wrap (rd l0 x9_1)) (ji23)))) l0 (l0.length : Int) (wrap64 (x9_1 + 1))) else (none)) = some r := by first | (rw [hji23] at H; exact H) | (simp only [hji23] at H ⊢; exact H)
                  have hji23w : (IntKind.i64.wrap (16 * (Int.tmod x9_1 4))) = ji23 := (i64_w _).trans hji23
                  by_cases c24 : 0 ≤ (ji23)
                  · rw [if_pos c24] at H
                    have c24b0 := eq_true c24
                    have c24b1 : decide (0 ≤ (ji23)) = true := decide_eq_true c24
                    clear c24
                    obtain ⟨ji25, hji25⟩ : ∃ j_ : Int, (shl .u64 (IntKind.u64.wrap (rd l0 x9_1)) (ji23)) = j_ := ⟨_, rfl⟩
                    replace H : (spec_Words.l0 k1 (x3_1.set ((ji20) : Int).toNat (Go.bits .or .u64 (rd x3_1 (ji20)) (ji25))) l0 (l0.length : Int) (wrap64 (x9_1 + 1))) = some r := by first | (rw [hji25] at H; exact H) | (simp only [hji25] at H ⊢; exact H)
                    have hji25_ : (IntKind.u64.wrap ((IntKind.u64.wrap (rd l0 x9_1)) * 2 ^ min (ji23).toNat 64)) = ji25 := hji25
                    have hji25z : (ji23) ≤ 64 → (IntKind.u64.wrap ((IntKind.u64.wrap (rd l0 x9_1)) * 2 ^ (ji23).toNat)) = ji25 := shl_small hji25
                    obtain ⟨y152, hy152⟩ : ∃ y_ : List Int, y_ = (x3_1.set ((ji20) : Int).toNat (Go.bits .or .u64 (rd x3_1 (ji20)) (ji25))) := ⟨_, rfl⟩
                    replace H : (spec_Words.l0 k1 y152 l0 (l0.length : Int) (wrap64 (x9_1 + 1))) = some r := by first | (rw [hy152]; with_reducible exact H) | (have H2_ := (Option.bind_some _ _).symm.trans H; rw [hy152]; with_reducible exact H2_) | (have H2_ := (Option.bind_some _ _).symm.trans H; with_reducible exact H2_) | with_reducible exact H | (rw [hy152]; exact H) | exact H
                    have Ny152 := Aside0.mk hy152
                    clear hy152
                    have H' := Aside0.mk H
                    clear H
                    have p145 : 0 ≤ (x9_1 : Int) := of_decide_eq_true (by first | (with_reducible assumption) | assumption)
                    have q145 : x9_1 < (l0.length : Int) := of_decide_eq_true (by first | (with_reducible assumption) | assumption)
                    obtain ⟨ad145, e145, hx145_0⟩ := Kd.at_int HR0.out x9_1 p145 q145
                    cases e145
                    replace hx145_0 := (HB.out.cell (World.block_lt_of_cell? w _ hx145_0)).trans hx145_0
                    replace p145 := eq_true p145
                    replace q145 := eq_true q145
                    try go_wp2
                    have n0_ := Aside0.mk (Kd.R_drew HO_3.out)
                    have n1_ := Aside0.mk (below_drew1 HB.out)
                    clear HO_3
                    clear HB
                    have HO_3 := n0_
                    have HB := n1_
                    clear n0_ n1_
                    obtain ⟨Ao28, co28, eo28⟩ := Kd.R_slice HO_3.out
                    (first | subst eo28 | (injection eo28 with f1_ f2_ f3_; have f4_ := f1_.symm; have f5_ := f3_.symm; clear f1_ f2_ f3_; subst f4_; subst f5_))
                    have p151 : 0 ≤ ((ji20) : Int) := of_decide_eq_true (by first | (with_reducible assumption) | assumption)
                    have q151 : (ji20) < (x3_1.length : Int) := of_decide_eq_true (by first | (with_reducible assumption) | assumption)
                    obtain ⟨ad151, e151, hx151_0⟩ := Kd.at_int (Kd.R_reads' HO_3.out).2.2 (ji20) p151 q151
                    cases e151
                    replace p151 := eq_true p151
                    replace q151 := eq_true q151
                    have p26 : 0 ≤ ((ji20) : Int) := of_decide_eq_true (by first | (with_reducible assumption) | assumption)
                    have q26 : ((ji20) : Int) < ((x3_1.length : Int) : Int) := of_decide_eq_true (by first | (with_reducible assumption) | assumption)
                    obtain ⟨go26, co26, eo26, gb26, gl26, cl26, HG26⟩ := Kd.R_form HO_3.out (by omega)
                    (first | cases eo26 | (injection eo26 with ea_ en_ ec_; (first | subst ea_ | (injection ea_ with ea_; subst ea_)); subst ec_; clear en_))
                    have GB26 := Aside0.mk gb26
                    have GG26 := Aside0.mk HG26
                    clear gb26 gl26 HG26
                    (first | simp only [add_plain] at hx151_0 | skip)
                    obtain ⟨hx26_0, hf26_0⟩ := Kd.R_celln 0 HO_3.out ((ji20) : Int) p26 q26
                    replace p26 := eq_true p26
                    replace q26 := eq_true q26
                    have HP29 := Kd.R_putn HO_3.out ((ji20) : Int) (Go.bits .or .u64 (rd x3_1 (ji20)) (ji25))
                    rw [← Ny152.out] at HP29
                    have HQ29 := Aside0.mk HP29
                    clear HP29
                    refine start_ (n := 14) (S := fun w' => w'.cell? ⟨go26, ((ji20)).toNat, none⟩ = some (.int .u64 (rd x3_1 (ji20)))) (ds := [13]) #[false, false, false, false, false, false, false, false, false, false, false, false, false, false] (by kernel_rfl) rfl rfl (hx151_0) (fun hHeld => ?_); refine with_tabW spec_Words.tab7 spec_Words.bits7 (fun HT_ HW_ => ?_)
                    generalize wr.drew = w27 at HO_3 HB GG26 HQ29 hf26_0 hx151_0 hx26_0 hHeld ⊢
                    refine pure_ (i := 0) (N := some 20) (v := ?_) (a' := ?_) #[true, false, false, false, false, false, false, false, false, false, false, false, false, false] rfl rfl (any_of HT_.out (by kernel_rfl)) (fun _ _ _ h => h) (Or.inl ⟨by rfl, ?_⟩) ?_ ?_
                    rotate_left
                    · intro w'
                      go_simp
                      with_reducible rfl
                    rotate_left
                    · simp only [Act.put, List.setIfInBounds_toArray, List.set_cons_zero, List.set_cons_succ, i64_w, i32_w]
                      rfl
                    refine pure_ (i := 1) (N := some 21) (v := ?_) (a' := ?_) #[true, true, false, false, false, false, false, false, false, false, false, false, false, false] rfl rfl (any_of HT_.out (by kernel_rfl)) (fun _ _ _ h => h) (Or.inl ⟨by rfl, ?_⟩) ?_ ?_
                    rotate_left
                    · intro w'
                      go_simp
                      with_reducible rfl
                    rotate_left
                    · simp only [Act.put, List.setIfInBounds_toArray, List.set_cons_zero, List.set_cons_succ, i64_w, i32_w]
                      rfl
                    refine pure_ (i := 2) (N := some 22) (v := ?_) (a' := ?_) #[true, true, true, false, false, false, false, false, false, false, false, false, false, false] rfl rfl (any_of HT_.out (by kernel_rfl)) (fun _ _ _ h => h) (Or.inl ⟨by rfl, ?_⟩) ?_ ?_
                    rotate_left
                    · intro w'
                      go_simp
                      with_reducible rfl
                    rotate_left
                    · simp only [Act.put, List.setIfInBounds_toArray, List.set_cons_zero, List.set_cons_succ, i64_w, i32_w]
                      rfl
                    refine pure_ (i := 3) (N := some 23) (v := ?_) (a' := ?_) #[true, true, true, true, false, false, false, false, false, false, false, false, false, false] rfl rfl (any_of HT_.out (by kernel_rfl)) (fun _ _ _ h => h) (Or.inl ⟨by rfl, ?_⟩) ?_ ?_
                    rotate_left
                    · intro w'
                      go_simp
                      with_reducible rfl
                    rotate_left
                    · simp only [Act.put, List.setIfInBounds_toArray, List.set_cons_zero, List.set_cons_succ, i64_w, i32_w]
                      rfl
                    refine pure_ (i := 5) (N := some 25) (v := ?_) (a' := ?_) #[true, true, true, true, false, true, false, false, false, false, false, false, false, false] rfl rfl (any_of HT_.out (by kernel_rfl)) (fun _ _ _ h => h) (Or.inl ⟨by rfl, ?_⟩) ?_ ?_
                    rotate_left
                    · intro w'
                      go_simp
                      with_reducible rfl
                    rotate_left
                    · simp only [Act.put, List.setIfInBounds_toArray, List.set_cons_zero, List.set_cons_succ, i64_w, i32_w]
                      rfl
                    refine pure_ (i := 6) (N := some 26) (v := ?_) (a' := ?_) #[true, true, true, true, false, true, true, false, false, false, false, false, false, false] rfl rfl (any_of HT_.out (by kernel_rfl)) (fun _ _ _ h => h) (Or.inl ⟨by rfl, ?_⟩) ?_ ?_
                    rotate_left
                    · intro w'
                      go_simp
                      with_reducible rfl
                    rotate_left
                    · simp only [Act.put, List.setIfInBounds_toArray, List.set_cons_zero, List.set_cons_succ, i64_w, i32_w]
                      rfl
                    refine pure_ (i := 7) (N := some 27) (v := ?_) (a' := ?_) #[true, true, true, true, false, true, true, true, false, false, false, false, false, false] rfl rfl (any_of HT_.out (by kernel_rfl)) (fun _ _ _ h => h) (Or.inl ⟨by rfl, ?_⟩) ?_ ?_
                    rotate_left
                    · intro w'
                      go_simp
                      with_reducible rfl
                    rotate_left
                    · simp only [Act.put, List.setIfInBounds_toArray, List.set_cons_zero, List.set_cons_succ, i64_w, i32_w]
                      rfl
                    refine pure_ (i := 8) (N := some 28) (v := ?_) (a' := ?_) #[true, true, true, true, false, true, true, true, true, false, false, false, false, false] rfl rfl (any_of HT_.out (by kernel_rfl)) (fun _ _ _ h => h) (Or.inl ⟨by rfl, ?_⟩) ?_ ?_
                    rotate_left
                    · intro w'
                      go_simp
                      with_reducible rfl
                    rotate_left
                    · simp only [Act.put, List.setIfInBounds_toArray, List.set_cons_zero, List.set_cons_succ, i64_w, i32_w]
                      rfl
                    refine pure_ (i := 9) (N := some 29) (v := ?_) (a' := ?_) #[true, true, true, true, false, true, true, true, true, true, false, false, false, false] rfl rfl (any_of HT_.out (by kernel_rfl)) (fun _ _ _ h => h) (Or.inl ⟨by rfl, ?_⟩) ?_ ?_
                    rotate_left
                    · intro w'
                      go_simp
                      with_reducible rfl
                    rotate_left
                    · simp only [Act.put, List.setIfInBounds_toArray, List.set_cons_zero, List.set_cons_succ, i64_w, i32_w]
                      rfl
                    refine pure_ (i := 10) (N := some 30) (v := ?_) (a' := ?_) #[true, true, true, true, false, true, true, true, true, true, true, false, false, false] rfl rfl (any_of HT_.out (by kernel_rfl)) (fun _ _ _ h => h) (Or.inl ⟨by rfl, ?_⟩) ?_ ?_
                    rotate_left
                    · intro w'
                      go_simp
                      with_reducible rfl
                    rotate_left
                    · simp only [Act.put, List.setIfInBounds_toArray, List.set_cons_zero, List.set_cons_succ, i64_w, i32_w]
                      rfl
                    refine take_ (i := 4) (N := some 24) (v := ?_) (a' := ?_) #[true, true, true, true, true, true, true, true, true, true, true, false, false, false] rfl rfl (take_ofW HT_.out HW_.out (by kernel_rfl)) (fun _ _ _ h => h) (Or.inl ⟨by rfl, ?_⟩) hHeld ?_ ?_
                    rotate_left
                    · intro w' s0
                      go_simp
                      with_reducible rfl
                    rotate_left
                    · simp only [Act.put, List.setIfInBounds_toArray, List.set_cons_zero, List.set_cons_succ, i64_w, i32_w]
                      rfl
                    refine pure_ (i := 11) (N := some 31) (v := ?_) (a' := ?_) #[true, true, true, true, true, true, true, true, true, true, true, true, false, false] rfl rfl (any_of HT_.out (by kernel_rfl)) (fun _ _ _ h => h) (Or.inl ⟨by rfl, ?_⟩) ?_ ?_
                    rotate_left
                    · intro w'
                      go_simp
                      with_reducible rfl
                    rotate_left
                    · simp only [Act.put, List.setIfInBounds_toArray, List.set_cons_zero, List.set_cons_succ, i64_w, i32_w]
                      rfl
                    refine pure_ (i := 12) (N := some 32) (v := ?_) (a' := ?_) #[true, true, true, true, true, true, true, true, true, true, true, true, true, false] rfl rfl (any_of HT_.out (by kernel_rfl)) (fun _ _ _ h => h) (Or.inl ⟨by rfl, ?_⟩) ?_ ?_
                    rotate_left
                    · intro w'
                      go_simp
                      with_reducible rfl
                    rotate_left
                    · simp only [Act.put, List.setIfInBounds_toArray, List.set_cons_zero, List.set_cons_succ, i64_w, i32_w]
                      rfl
                    refine last_ (i := 13) (N := none) #[true, true, true, true, true, true, true, true, true, true, true, true, true, true] rfl rfl (one_of HT_.out (by kernel_rfl)) (by decide) (fun K hK => ?_)
                    refine skip_ (w1 := ?_) (by rfl) rfl ?_ ?_
                    rotate_left
                    · go_simp
                      rfl
                    refine hK.out _ _ ?_
                    clear hK K
                    refine done_ (done_of HT_.out (by kernel_rfl)) ?_
                    try go_wp2
                    go_roundg k1
                    case measure => have := HK1.out; omega
                    case rel => exact ⟨(y152), (wrap64 (x9_1 + 1)), (by first | rfl | (simp; done) | (simp [*]; done)), H', ⟨by have := HK1.out; omega⟩, ⟨by (with_reducible repeat (first | apply Kd.R_alloc | apply Kd.R_drewN | apply Kd.R_drew)); exact HQ29.out⟩, ⟨by repeat (first | (with_reducible first | exact HB.out | apply below_alloc | apply pw_below_drewN | apply below_drew1 | refine below_set ?_ GB26.out) | exact HB.out)⟩⟩
                  · rw [if_neg c24] at H
                    exact absurd H (by simp)
                · rw [if_neg c22] at H
                  exact absurd H (by simp)
              · rw [if_neg c21] at H
                exact absurd H (by simp)
          · rw [if_neg c6] at H
            exact absurd H (by simp)
        · rw [if_neg c5] at H
          exact absurd H (by simp)
      · rw [if_neg c4] at H
        have c4b0 : decide (x9_1 < (l0.length : Int)) = false := decide_eq_false c4
        clear c4
        obtain rfl := Option.some.inj H
        go_wp2
        go_ret
        exact ⟨_, by first | rfl | (simp [errW_none, errW_some] <;> rfl) | (simp [*, errW_none, errW_some] <;> rfl), by (with_reducible repeat (first | apply Kd.R_alloc | apply Kd.R_drewN | apply Kd.R_drew)); exact HO_3.out, by repeat (first | (with_reducible first | exact HB.out | apply below_alloc | apply pw_below_drewN | apply below_drew1) | exact HB.out)⟩

/-! ### spec_HasWords: function 63 -/
def spec_HasWords.l0 : Nat → List Int → List Int → Int → Int → Option (Bool)
  | 0, _, _, _, _ => none
  | k + 1, x0, x5, x15, x16 => if x16 < x15 then (if 0 ≤ x16 then (if x16 < (x0.length : Int) then (if x16 < (x5.length : Int) then (if (rd x0 x16) = (rd x5 x16) then (spec_HasWords.l0 k x0 x5 x15 (wrap64 (x16 + 1))) else (some false)) else (none)) else (none)) else (none)) else (some true)
def spec_HasWords.f (k : Nat) (l0 : List Int) (l1 : List Int) : Option (Bool) := (spec_Words.f k l1).bind fun t153 => (if (l0.length : Int) = (t153.length : Int) then (spec_HasWords.l0 k l0 t153 (t153.length : Int) 0) else (some false))
theorem spec_HasWords.mono_l : ∀ k, (∀ y0 y1 y2 y3, LeO (spec_HasWords.l0 k y0 y1 y2 y3) (spec_HasWords.l0 (k + 1) y0 y1 y2 y3))
  | 0 => fun _ _ _ _ r h => by simp [spec_HasWords.l0] at h
  | k + 1 => by
    have ih0 := spec_HasWords.mono_l k
    · intro y0 y1 y2 y3
      unfold spec_HasWords.l0
      repeat' first
      | (with_reducible exact ih0 _ _ _ _)
      | (with_reducible exact spec_Words.mono _ _)
      | (with_reducible exact LeO.refl _)
      | (with_reducible exact LeO.none _)
      | (with_reducible refine LeO.ite ?_ ?_)
      | (with_reducible refine LeO.bind ?_ (fun _ => ?_))
      | exact ih0 _ _ _ _
      | exact spec_Words.mono _ _
      | exact LeO.none _
      | refine LeO.ite ?_ ?_
      | refine LeO.bind ?_ (fun _ => ?_)
theorem spec_HasWords.mono : ∀ a0 a1 k, LeO (spec_HasWords.f k a0 a1) (spec_HasWords.f (k + 1) a0 a1) := by
  intro a0 a1 k
  have ih0 := spec_HasWords.mono_l k
  unfold spec_HasWords.f
  repeat' first
      | (with_reducible exact ih0 _ _ _ _)
      | (with_reducible exact spec_Words.mono _ _)
      | (with_reducible exact LeO.refl _)
      | (with_reducible exact LeO.none _)
      | (with_reducible refine LeO.ite ?_ ?_)
      | (with_reducible refine LeO.bind ?_ (fun _ => ?_))
      | exact ih0 _ _ _ _
      | exact spec_Words.mono _ _
      | exact LeO.none _
      | refine LeO.ite ?_ ?_
      | refine LeO.bind ?_ (fun _ => ?_)
set_option maxHeartbeats 8000000 in
set_option maxRecDepth 100000 in
theorem spec_HasWords.calls (k : Nat) (A0 : Option Addr) (c0 : Nat) (l0 : List Int) (A1 : Option Addr) (c1 : Nat) (l1 : List Int) (r : Bool) (w : World) (hr0 : Kd.C (Kd.int .u64) w A0 l0.length l0) (hc0 : l0.length ≤ c0) (hr1 : Kd.C (Kd.int .i64) w A1 l1.length l1) (hc1 : l1.length ≤ c1) (h : spec_HasWords.f k l0 l1 = some r) :
    Calls Tryz.prog 63 #[.slice A0 l0.length c0, .slice A1 l1.length c1] w fun e w' => e = .returned (.bool r) ∧ Below w.heap.size w w' := by
  have HR0 := Aside0.mk hr0
  have HC0 := Aside0.mk hc0
  clear hr0 hc0
  have HR1 := Aside0.mk hr1
  have HC1 := Aside0.mk hc1
  clear hr1 hc1
  have HB := Aside0.mk (Below.refl w.heap.size w)
  have H : ((spec_Words.f k l1).bind fun t153 => (if (l0.length : Int) = (t153.length : Int) then (spec_HasWords.l0 k l0 t153 (t153.length : Int) 0) else (some false))) = some r := h
  clear h
  replace H := Option.bind_eq_some_iff.mp H
  obtain ⟨t153, A30, H⟩ := H
  replace H : (if (l0.length : Int) = (t153.length : Int) then (spec_HasWords.l0 k l0 t153 (t153.length : Int) 0) else (some false)) = some r := H
  have A3 := Aside0.mk A30
  clear A30
  by_cases c4 : (l0.length : Int) = (t153.length : Int)
  · rw [if_pos c4] at H
    have c4b0 : ((l0.length : Int) == (t153.length : Int)) = true := beq_iff_eq.mpr c4
    have c4b1 : ((l0.length : Int) != (t153.length : Int)) = false := bne_eq_false_iff_eq.mpr c4
    have c4b2 : (l0.length == t153.length) = true := by first | simpa using c4 | (simp at c4 ⊢; omega)
    clear c4
    have H' := Aside0.mk H
    clear H
    go_enter Tryz.func63, Tryz.ntmps63
    go_wp2_with (first | (go_at_call 104; (with_reducible refine (spec_Words.calls k _ _ l1 t153 _ ?side1 ?side2 A3.out).mono ?_); (case side1 => repeat (first | exact HR1.out | (with_reducible refine Kd.C_alloc ?_ _) | (with_reducible refine Kd.C_drewN ?_ _) | (with_reducible refine Kd.C_drew ?_))); (case side2 => exact HC1.out); rintro e w5 ⟨v154, rfl, ho0, hb⟩; have n0_ := Aside0.mk (Kd.R_lower ho0 (below_size (by repeat (first | (with_reducible first | exact HB.out | apply below_alloc | apply pw_below_drewN | apply below_drew1) | exact HB.out)))); have n1_ := Aside0.mk (below_step (by repeat (first | (with_reducible first | exact HB.out | apply below_alloc | apply pw_below_drewN | apply below_drew1) | exact HB.out)) hb); clear HB; have HO155 := n0_; have HB := n1_; clear n0_ n1_; (try clear hb); (try clear hb2); (try clear hk); (try clear hi); (try clear ho0); obtain ⟨Ao6, co6, eo6⟩ := Kd.R_slice HO155.out; subst eo6))
    repeat (go_quiet (first | (go_at_call 104; (with_reducible refine (spec_Words.calls k _ _ l1 t153 _ ?side1 ?side2 A3.out).mono ?_); (case side1 => repeat (first | exact HR1.out | (with_reducible refine Kd.C_alloc ?_ _) | (with_reducible refine Kd.C_drewN ?_ _) | (with_reducible refine Kd.C_drew ?_))); (case side2 => exact HC1.out); rintro e w5 ⟨v154, rfl, ho0, hb⟩; have n0_ := Aside0.mk (Kd.R_lower ho0 (below_size (by repeat (first | (with_reducible first | exact HB.out | apply below_alloc | apply pw_below_drewN | apply below_drew1) | exact HB.out)))); have n1_ := Aside0.mk (below_step (by repeat (first | (with_reducible first | exact HB.out | apply below_alloc | apply pw_below_drewN | apply below_drew1) | exact HB.out)) hb); clear HB; have HO155 := n0_; have HB := n1_; clear n0_ n1_; (try clear hb); (try clear hb2); (try clear hk); (try clear hi); (try clear ho0); obtain ⟨Ao6, co6, eo6⟩ := Kd.R_slice HO155.out; subst eo6)); try go_wp2_with (first | (go_at_call 104; (with_reducible refine (spec_Words.calls k _ _ l1 t153 _ ?side1 ?side2 A3.out).mono ?_); (case side1 => repeat (first | exact HR1.out | (with_reducible refine Kd.C_alloc ?_ _) | (with_reducible refine Kd.C_drewN ?_ _) | (with_reducible refine Kd.C_drew ?_))); (case side2 => exact HC1.out); rintro e w5 ⟨v154, rfl, ho0, hb⟩; have n0_ := Aside0.mk (Kd.R_lower ho0 (below_size (by repeat (first | (with_reducible first | exact HB.out | apply below_alloc | apply pw_below_drewN | apply below_drew1) | exact HB.out)))); have n1_ := Aside0.mk (below_step (by repeat (first | (with_reducible first | exact HB.out | apply below_alloc | apply pw_below_drewN | apply below_drew1) | exact HB.out)) hb); clear HB; have HO155 := n0_; have HB := n1_; clear n0_ n1_; (try clear hb); (try clear hb2); (try clear hk); (try clear hi); (try clear ho0); obtain ⟨Ao6, co6, eo6⟩ := Kd.R_slice HO155.out; subst eo6)))
    go_loopg [16] k (fun kq v16 w' => ∃ (x16_1 : Int), v16 = .int .i64 x16_1 ∧ Aside0 (spec_HasWords.l0 kq l0 t153 (t153.length : Int) x16_1 = some r) ∧ Aside0 (kq ≤ k) ∧ Aside0 (Kd.R (Kd.int .u64) 48 w' w.heap.size (fun _ => True) (.slice Ao6 t153.length co6) t153) ∧ Aside0 (Below w.heap.size w w'))
    case atStart => exact ⟨(0), (by first | rfl | (simp; done) | (simp [*]; done)), H', ⟨Nat.le_refl _⟩, ⟨by (with_reducible repeat (first | apply Kd.R_alloc | apply Kd.R_drewN | apply Kd.R_drew)); exact HO155.out⟩, ⟨by repeat (first | (with_reducible first | exact HB.out | apply below_alloc | apply pw_below_drewN | apply below_drew1) | exact HB.out)⟩⟩
    case round =>
      clear H'
      try clear c1
      try clear p2
      try clear c4
      try clear c4b0
      try clear c4b1
      try clear c4b2
      try clear c6
      obtain ⟨x16_1, rfl, HA, HK1, HO_5, HB⟩ := hrel
      cases gk with
      | zero => exact absurd HA.out (by simp [spec_HasWords.l0])
      | succ k1 =>
        have H := HA.out
        clear HA
        simp only [spec_HasWords.l0] at H
        by_cases c7 : x16_1 < (t153.length : Int)
        · rw [if_pos c7] at H
          have c7b0 : decide (x16_1 < (t153.length : Int)) = true := decide_eq_true c7
          clear c7
          by_cases c8 : 0 ≤ x16_1
          · rw [if_pos c8] at H
            have c8b0 : decide (0 ≤ x16_1) = true := decide_eq_true c8
            clear c8
            by_cases c9 : x16_1 < (l0.length : Int)
            · rw [if_pos c9] at H
              have c9b0 : decide (x16_1 < (l0.length : Int)) = true := decide_eq_true c9
              clear c9
              by_cases c10 : x16_1 < (t153.length : Int)
              · rw [if_pos c10] at H
                have c10b0 : decide (x16_1 < (t153.length : Int)) = true := decide_eq_true c10
                clear c10
                by_cases c11 : (rd l0 x16_1) = (rd t153 x16_1)
                · rw [if_pos c11] at H
                  have c11b0 : ((rd l0 x16_1) == (rd t153 x16_1)) = true := beq_iff_eq.mpr c11
                  have c11b1 : ((rd l0 x16_1) != (rd t153 x16_1)) = false := bne_eq_false_iff_eq.mpr c11
                  clear c11
                  have H' := Aside0.mk H
                  clear H
                  have p156 : 0 ≤ (x16_1 : Int) := of_decide_eq_true (by first | (with_reducible assumption) | assumption)
                  have q156 : x16_1 < (l0.length : Int) := of_decide_eq_true (by first | (with_reducible assumption) | assumption)
                  obtain ⟨ad156, e156, hx156_0⟩ := Kd.at_int HR0.out x16_1 p156 q156
                  cases e156
                  replace hx156_0 := (HB.out.cell (World.block_lt_of_cell? w _ hx156_0)).trans hx156_0
                  replace p156 := eq_true p156
                  replace q156 := eq_true q156
                  have p157 : 0 ≤ (x16_1 : Int) := of_decide_eq_true (by first | (with_reducible assumption) | assumption)
                  have q157 : x16_1 < (t153.length : Int) := of_decide_eq_true (by first | (with_reducible assumption) | assumption)
                  obtain ⟨ad157, e157, hx157_0⟩ := Kd.at_int (Kd.R_reads' HO_5.out).2.2 x16_1 p157 q157
                  cases e157
                  replace p157 := eq_true p157
                  replace q157 := eq_true q157
                  go_wp2
                  repeat (go_quiet (fail); try go_wp2)
                  go_roundg k1
                  case measure => have := HK1.out; omega
                  case rel => exact ⟨(wrap64 (x16_1 + 1)), (by first | rfl | (simp; done) | (simp [*]; done)), H', ⟨by have := HK1.out; omega⟩, ⟨by (with_reducible repeat (first | apply Kd.R_alloc | apply Kd.R_drewN | apply Kd.R_drew)); exact HO_5.out⟩, ⟨by repeat (first | (with_reducible first | exact HB.out | apply below_alloc | apply pw_below_drewN | apply below_drew1) | exact HB.out)⟩⟩
                · rw [if_neg c11] at H
                  have c11b0 : ((rd l0 x16_1) == (rd t153 x16_1)) = false := beq_eq_false_iff_ne.mpr c11
                  have c11b1 : ((rd l0 x16_1) != (rd t153 x16_1)) = true := bne_iff_ne.mpr c11
                  obtain rfl := Option.some.inj H
                  have p156 : 0 ≤ (x16_1 : Int) := of_decide_eq_true (by first | (with_reducible assumption) | assumption)
                  have q156 : x16_1 < (l0.length : Int) := of_decide_eq_true (by first | (with_reducible assumption) | assumption)
                  obtain ⟨ad156, e156, hx156_0⟩ := Kd.at_int HR0.out x16_1 p156 q156
                  cases e156
                  replace hx156_0 := (HB.out.cell (World.block_lt_of_cell? w _ hx156_0)).trans hx156_0
                  replace p156 := eq_true p156
                  replace q156 := eq_true q156
                  have p157 : 0 ≤ (x16_1 : Int) := of_decide_eq_true (by first | (with_reducible assumption) | assumption)
                  have q157 : x16_1 < (t153.length : Int) := of_decide_eq_true (by first | (with_reducible assumption) | assumption)
                  obtain ⟨ad157, e157, hx157_0⟩ := Kd.at_int (Kd.R_reads' HO_5.out).2.2 x16_1 p157 q157
                  cases e157
                  replace p157 := eq_true p157
                  replace q157 := eq_true q157
                  go_wp2
                  repeat (go_quiet (fail); try go_wp2)
                  go_ret
                  exact ⟨by first | rfl | (simp [errW_none, errW_some] <;> rfl) | (simp [*, errW_none, errW_some] <;> rfl), by repeat (first | (with_reducible first | exact HB.out | apply below_alloc | apply pw_below_drewN | apply below_drew1) | exact HB.out)⟩
              · rw [if_neg c10] at H
                exact absurd H (by simp)
            · rw [if_neg c9] at H
              exact absurd H (by simp)
          · rw [if_neg c8] at H
            exact absurd H (by simp)
        · rw [if_neg c7] at H
          have c7b0 : decide (x16_1 < (t153.length : Int)) = false := decide_eq_false c7
          clear c7
          obtain rfl := Option.some.inj H
          go_wp2
          repeat (go_quiet (fail); try go_wp2)
          go_ret
          exact ⟨by first | rfl | (simp [errW_none, errW_some] <;> rfl) | (simp [*, errW_none, errW_some] <;> rfl), by repeat (first | (with_reducible first | exact HB.out | apply below_alloc | apply pw_below_drewN | apply below_drew1) | exact HB.out)⟩
  · rw [if_neg c4] at H
    have c4b0 : ((l0.length : Int) == (t153.length : Int)) = false := beq_eq_false_iff_ne.mpr c4
    have c4b1 : ((l0.length : Int) != (t153.length : Int)) = true := bne_iff_ne.mpr c4
    have c4b2 : (l0.length == t153.length) = false := by first | simpa using c4 | (simp at c4 ⊢; omega)
    obtain rfl := Option.some.inj H
    go_enter Tryz.func63, Tryz.ntmps63
    go_wp2_with (first | (go_at_call 104; (with_reducible refine (spec_Words.calls k _ _ l1 t153 _ ?side1 ?side2 A3.out).mono ?_); (case side1 => repeat (first | exact HR1.out | (with_reducible refine Kd.C_alloc ?_ _) | (with_reducible refine Kd.C_drewN ?_ _) | (with_reducible refine Kd.C_drew ?_))); (case side2 => exact HC1.out); rintro e w12 ⟨v154, rfl, ho0, hb⟩; have n0_ := Aside0.mk (Kd.R_lower ho0 (below_size (by repeat (first | (with_reducible first | exact HB.out | apply below_alloc | apply pw_below_drewN | apply below_drew1) | exact HB.out)))); have n1_ := Aside0.mk (below_step (by repeat (first | (with_reducible first | exact HB.out | apply below_alloc | apply pw_below_drewN | apply below_drew1) | exact HB.out)) hb); clear HB; have HO155 := n0_; have HB := n1_; clear n0_ n1_; (try clear hb); (try clear hb2); (try clear hk); (try clear hi); (try clear ho0); obtain ⟨Ao13, co13, eo13⟩ := Kd.R_slice HO155.out; subst eo13))
    repeat (go_quiet (first | (go_at_call 104; (with_reducible refine (spec_Words.calls k _ _ l1 t153 _ ?side1 ?side2 A3.out).mono ?_); (case side1 => repeat (first | exact HR1.out | (with_reducible refine Kd.C_alloc ?_ _) | (with_reducible refine Kd.C_drewN ?_ _) | (with_reducible refine Kd.C_drew ?_))); (case side2 => exact HC1.out); rintro e w12 ⟨v154, rfl, ho0, hb⟩; have n0_ := Aside0.mk (Kd.R_lower ho0 (below_size (by repeat (first | (with_reducible first | exact HB.out | apply below_alloc | apply pw_below_drewN | apply below_drew1) | exact HB.out)))); have n1_ := Aside0.mk (below_step (by repeat (first | (with_reducible first | exact HB.out | apply below_alloc | apply pw_below_drewN | apply below_drew1) | exact HB.out)) hb); clear HB; have HO155 := n0_; have HB := n1_; clear n0_ n1_; (try clear hb); (try clear hb2); (try clear hk); (try clear hi); (try clear ho0); obtain ⟨Ao13, co13, eo13⟩ := Kd.R_slice HO155.out; subst eo13)); try go_wp2_with (first | (go_at_call 104; (with_reducible refine (spec_Words.calls k _ _ l1 t153 _ ?side1 ?side2 A3.out).mono ?_); (case side1 => repeat (first | exact HR1.out | (with_reducible refine Kd.C_alloc ?_ _) | (with_reducible refine Kd.C_drewN ?_ _) | (with_reducible refine Kd.C_drew ?_))); (case side2 => exact HC1.out); rintro e w12 ⟨v154, rfl, ho0, hb⟩; have n0_ := Aside0.mk (Kd.R_lower ho0 (below_size (by repeat (first | (with_reducible first | exact HB.out | apply below_alloc | apply pw_below_drewN | apply below_drew1) | exact HB.out)))); have n1_ := Aside0.mk (below_step (by repeat (first | (with_reducible first | exact HB.out | apply below_alloc | apply pw_below_drewN | apply below_drew1) | exact HB.out)) hb); clear HB; have HO155 := n0_; have HB := n1_; clear n0_ n1_; (try clear hb); (try clear hb2); (try clear hk); (try clear hi); (try clear ho0); obtain ⟨Ao13, co13, eo13⟩ := Kd.R_slice HO155.out; subst eo13)))
    go_ret
    exact ⟨by first | rfl | (simp [errW_none, errW_some] <;> rfl) | (simp [*, errW_none, errW_some] <;> rfl), by repeat (first | (with_reducible first | exact HB.out | apply below_alloc | apply pw_below_drewN | apply below_drew1) | exact HB.out)⟩

/-! ### spec_rest: function 37 -/
def spec_rest.f (a0_0 : Int) (a0_1 : Bool) (a0_2 : ByteArray) (a0_3 : Bool) (l0_4 : List Int) (l0_5 : List Int) (a0_6 : Bool) (l0_7 : List Int) (l0_8 : List Int) : Option (Bool) := if a0_1 = true then (some false) else (if a0_2.toList = ([] : List UInt8) then (if a0_6 = true then (some false) else (if (l0_7.length : Int) = 0 then (some ((l0_8.length : Int) == 0)) else (some false))) else (some false))
set_option maxHeartbeats 8000000 in
set_option maxRecDepth 100000 in
theorem spec_rest.calls (a0_0 : Int) (a0_1 : Bool) (a0_2 : ByteArray) (a0_3 : Bool) (A0_4 : Option Addr) (c0_4 : Nat) (l0_4 : List Int) (A0_5 : Option Addr) (c0_5 : Nat) (l0_5 : List Int) (a0_6 : Bool) (A0_7 : Option Addr) (c0_7 : Nat) (l0_7 : List Int) (A0_8 : Option Addr) (c0_8 : Nat) (l0_8 : List Int) (r : Bool) (w : World) (hr0_4 : Kd.C (Kd.int .u64) w A0_4 l0_4.length l0_4) (hc0_4 : l0_4.length ≤ c0_4) (hr0_5 : Kd.C (Kd.int .u64) w A0_5 l0_5.length l0_5) (hc0_5 : l0_5.length ≤ c0_5) (hr0_7 : Kd.C (Kd.int .u64) w A0_7 l0_7.length l0_7) (hc0_7 : l0_7.length ≤ c0_7) (hr0_8 : Kd.C (Kd.int .u64) w A0_8 l0_8.length l0_8) (hc0_8 : l0_8.length ≤ c0_8) (h : spec_rest.f a0_0 a0_1 a0_2 a0_3 l0_4 l0_5 a0_6 l0_7 l0_8 = some r) :
    Calls Tryz.prog 37 #[.agg #[.int .i64 a0_0, .bool a0_1, .string a0_2, .bool a0_3, .slice A0_4 l0_4.length c0_4, .slice A0_5 l0_5.length c0_5, .bool a0_6, .slice A0_7 l0_7.length c0_7, .slice A0_8 l0_8.length c0_8]] w fun e w' => e = .returned (.bool r) ∧ Below w.heap.size w w' := by
  have hu31 := Tryz.underlying31
  have HR0_4 := Aside0.mk hr0_4
  have HC0_4 := Aside0.mk hc0_4
  clear hr0_4 hc0_4
  have HR0_5 := Aside0.mk hr0_5
  have HC0_5 := Aside0.mk hc0_5
  clear hr0_5 hc0_5
  have HR0_7 := Aside0.mk hr0_7
  have HC0_7 := Aside0.mk hc0_7
  clear hr0_7 hc0_7
  have HR0_8 := Aside0.mk hr0_8
  have HC0_8 := Aside0.mk hc0_8
  clear hr0_8 hc0_8
  have HB := Aside0.mk (Below.refl w.heap.size w)
  have H : (if a0_1 = true then (some false) else (if a0_2.toList = ([] : List UInt8) then (if a0_6 = true then (some false) else (if (l0_7.length : Int) = 0 then (some ((l0_8.length : Int) == 0)) else (some false))) else (some false))) = some r := h
  clear h
  by_cases c2 : a0_1 = true
  · subst c2
    have H1 : (some false) = some r := by rw [if_pos rfl] at H; exact H
    clear H
    have H := H1
    clear H1
    obtain rfl := Option.some.inj H
    go_enter Tryz.func37, Tryz.ntmps37
    go_wp2_with (first | ((with_reducible refine gate_dst (N := 1) rfl ?_); (try (refine gate_guard (by rfl) ?_; dsimp only)); refine box_event ?hg (N := 1) ?hd (cs := #[.int .i64 a0_0, .bool true, .string a0_2, .bool a0_3, .slice A0_4 l0_4.length c0_4, .slice A0_5 l0_5.length c0_5, .bool a0_6, .slice A0_7 l0_7.length c0_7, .slice A0_8 l0_8.length c0_8]) (t := 31) ?hr ?_; (case hd => rfl); (case hg => rfl); (case hr => first | (go_simp; done) | (go_simp; rfl)); intro gb158 hg w3 hbox hb; have n0_ := Aside0.mk (below_step (by repeat (first | (with_reducible first | exact HB.out | apply below_alloc | apply pw_below_drewN | apply below_drew1) | exact HB.out)) hb); have n1_ := Aside0.mk (hbox); have n2_ := Aside0.mk ((by rw [hg]; exact (below_size (by repeat (first | (with_reducible first | exact HB.out | apply below_alloc | apply pw_below_drewN | apply below_drew1) | exact HB.out))) : w.heap.size ≤ gb158)); have n3_ := Aside0.mk ((by rw [hg]; exact (below_size (by repeat (first | (with_reducible first | exact HB.out | apply below_alloc | apply pw_below_drewN | apply below_drew1) | exact HB.out))) : w.heap.size ≤ gb158)); clear HB; have HB := n0_; have BK158 := n1_; have GW158 := n2_; have GE158 := n3_; clear n0_ n1_ n2_ n3_; clear hb hbox hg; have hcz4_0 : w3.cell? ⟨gb158, 0, none⟩ = some (.int .i64 a0_0) := (blk_cell BK158.out 0).trans rfl; have hcz4_1 : w3.cell? ⟨gb158, 1, none⟩ = some (.bool true) := (blk_cell BK158.out 1).trans rfl; have hcz4_2 : w3.cell? ⟨gb158, 2, none⟩ = some (.string a0_2) := (blk_cell BK158.out 2).trans rfl; have hcz4_3 : w3.cell? ⟨gb158, 3, none⟩ = some (.bool a0_3) := (blk_cell BK158.out 3).trans rfl; have hcz4_4 : w3.cell? ⟨gb158, 4, none⟩ = some (.slice A0_4 l0_4.length c0_4) := (blk_cell BK158.out 4).trans rfl; have hcz4_5 : w3.cell? ⟨gb158, 5, none⟩ = some (.slice A0_5 l0_5.length c0_5) := (blk_cell BK158.out 5).trans rfl; have hcz4_6 : w3.cell? ⟨gb158, 6, none⟩ = some (.bool a0_6) := (blk_cell BK158.out 6).trans rfl; have hcz4_7 : w3.cell? ⟨gb158, 7, none⟩ = some (.slice A0_7 l0_7.length c0_7) := (blk_cell BK158.out 7).trans rfl; have hcz4_8 : w3.cell? ⟨gb158, 8, none⟩ = some (.slice A0_8 l0_8.length c0_8) := (blk_cell BK158.out 8).trans rfl; have hfz4_0 := blk_frozen BK158.out 0; have hfz4_1 := blk_frozen BK158.out 1; have hfz4_2 := blk_frozen BK158.out 2; have hfz4_3 := blk_frozen BK158.out 3; have hfz4_4 := blk_frozen BK158.out 4; have hfz4_5 := blk_frozen BK158.out 5; have hfz4_6 := blk_frozen BK158.out 6; have hfz4_7 := blk_frozen BK158.out 7; have hfz4_8 := blk_frozen BK158.out 8))
    go_ret
    exact ⟨by first | rfl | (simp [errW_none, errW_some] <;> rfl) | (simp [*, errW_none, errW_some] <;> rfl), by repeat (first | (with_reducible first | exact HB.out | apply below_alloc | apply pw_below_drewN | apply below_drew1 | refine below_set ?_ GE158.out) | exact HB.out)⟩
  · replace c2 := Bool.eq_false_iff.mpr c2
    subst c2
    have H1 : (if a0_2.toList = ([] : List UInt8) then (if a0_6 = true then (some false) else (if (l0_7.length : Int) = 0 then (some ((l0_8.length : Int) == 0)) else (some false))) else (some false)) = some r := by rw [if_neg (show ¬ (false = true) by decide)] at H; exact H
    clear H
    have H := H1
    clear H1
    by_cases c5 : a0_2.toList = ([] : List UInt8)
    · rw [if_pos c5] at H
      have c5b0 : (a0_2.toList == ([] : List UInt8)) = true := beq_iff_eq.mpr c5
      have c5b1 : (a0_2.toList != ([] : List UInt8)) = false := bne_eq_false_iff_eq.mpr c5
      clear c5
      by_cases c6 : a0_6 = true
      · subst c6
        have H1 : (some false) = some r := by rw [if_pos rfl] at H; exact H
        clear H
        have H := H1
        clear H1
        obtain rfl := Option.some.inj H
        go_enter Tryz.func37, Tryz.ntmps37
        go_wp2_with (first | ((with_reducible refine gate_dst (N := 1) rfl ?_); (try (refine gate_guard (by rfl) ?_; dsimp only)); refine box_event ?hg (N := 1) ?hd (cs := #[.int .i64 a0_0, .bool false, .string a0_2, .bool a0_3, .slice A0_4 l0_4.length c0_4, .slice A0_5 l0_5.length c0_5, .bool true, .slice A0_7 l0_7.length c0_7, .slice A0_8 l0_8.length c0_8]) (t := 31) ?hr ?_; (case hd => rfl); (case hg => rfl); (case hr => first | (go_simp; done) | (go_simp; rfl)); intro gb158 hg w7 hbox hb; have n0_ := Aside0.mk (below_step (by repeat (first | (with_reducible first | exact HB.out | apply below_alloc | apply pw_below_drewN | apply below_drew1) | exact HB.out)) hb); have n1_ := Aside0.mk (hbox); have n2_ := Aside0.mk ((by rw [hg]; exact (below_size (by repeat (first | (with_reducible first | exact HB.out | apply below_alloc | apply pw_below_drewN | apply below_drew1) | exact HB.out))) : w.heap.size ≤ gb158)); have n3_ := Aside0.mk ((by rw [hg]; exact (below_size (by repeat (first | (with_reducible first | exact HB.out | apply below_alloc | apply pw_below_drewN | apply below_drew1) | exact HB.out))) : w.heap.size ≤ gb158)); clear HB; have HB := n0_; have BK158 := n1_; have GW158 := n2_; have GE158 := n3_; clear n0_ n1_ n2_ n3_; clear hb hbox hg; have hcz8_0 : w7.cell? ⟨gb158, 0, none⟩ = some (.int .i64 a0_0) := (blk_cell BK158.out 0).trans rfl; have hcz8_1 : w7.cell? ⟨gb158, 1, none⟩ = some (.bool false) := (blk_cell BK158.out 1).trans rfl; have hcz8_2 : w7.cell? ⟨gb158, 2, none⟩ = some (.string a0_2) := (blk_cell BK158.out 2).trans rfl; have hcz8_3 : w7.cell? ⟨gb158, 3, none⟩ = some (.bool a0_3) := (blk_cell BK158.out 3).trans rfl; have hcz8_4 : w7.cell? ⟨gb158, 4, none⟩ = some (.slice A0_4 l0_4.length c0_4) := (blk_cell BK158.out 4).trans rfl; have hcz8_5 : w7.cell? ⟨gb158, 5, none⟩ = some (.slice A0_5 l0_5.length c0_5) := (blk_cell BK158.out 5).trans rfl; have hcz8_6 : w7.cell? ⟨gb158, 6, none⟩ = some (.bool true) := (blk_cell BK158.out 6).trans rfl; have hcz8_7 : w7.cell? ⟨gb158, 7, none⟩ = some (.slice A0_7 l0_7.length c0_7) := (blk_cell BK158.out 7).trans rfl; have hcz8_8 : w7.cell? ⟨gb158, 8, none⟩ = some (.slice A0_8 l0_8.length c0_8) := (blk_cell BK158.out 8).trans rfl; have hfz8_0 := blk_frozen BK158.out 0; have hfz8_1 := blk_frozen BK158.out 1; have hfz8_2 := blk_frozen BK158.out 2; have hfz8_3 := blk_frozen BK158.out 3; have hfz8_4 := blk_frozen BK158.out 4; have hfz8_5 := blk_frozen BK158.out 5; have hfz8_6 := blk_frozen BK158.out 6; have hfz8_7 := blk_frozen BK158.out 7; have hfz8_8 := blk_frozen BK158.out 8))
        go_ret
        exact ⟨by first | rfl | (simp [errW_none, errW_some] <;> rfl) | (simp [*, errW_none, errW_some] <;> rfl), by repeat (first | (with_reducible first | exact HB.out | apply below_alloc | apply pw_below_drewN | apply below_drew1 | refine below_set ?_ GE158.out) | exact HB.out)⟩
      · replace c6 := Bool.eq_false_iff.mpr c6
        subst c6
        have H1 : (if (l0_7.length : Int) = 0 then (some ((l0_8.length : Int) == 0)) else (some false)) = some r := by rw [if_neg (show ¬ (false = true) by decide)] at H; exact H
        clear H
        have H := H1
        clear H1
        by_cases c9 : (l0_7.length : Int) = 0
        · rw [if_pos c9] at H
          have c9b0 : ((l0_7.length : Int) == 0) = true := beq_iff_eq.mpr c9
          have c9b1 : ((l0_7.length : Int) != 0) = false := bne_eq_false_iff_eq.mpr c9
          clear c9
          obtain rfl := Option.some.inj H
          go_enter Tryz.func37, Tryz.ntmps37
          go_wp2_with (first | ((with_reducible refine gate_dst (N := 1) rfl ?_); (try (refine gate_guard (by rfl) ?_; dsimp only)); refine box_event ?hg (N := 1) ?hd (cs := #[.int .i64 a0_0, .bool false, .string a0_2, .bool a0_3, .slice A0_4 l0_4.length c0_4, .slice A0_5 l0_5.length c0_5, .bool false, .slice A0_7 l0_7.length c0_7, .slice A0_8 l0_8.length c0_8]) (t := 31) ?hr ?_; (case hd => rfl); (case hg => rfl); (case hr => first | (go_simp; done) | (go_simp; rfl)); intro gb158 hg w10 hbox hb; have n0_ := Aside0.mk (below_step (by repeat (first | (with_reducible first | exact HB.out | apply below_alloc | apply pw_below_drewN | apply below_drew1) | exact HB.out)) hb); have n1_ := Aside0.mk (hbox); have n2_ := Aside0.mk ((by rw [hg]; exact (below_size (by repeat (first | (with_reducible first | exact HB.out | apply below_alloc | apply pw_below_drewN | apply below_drew1) | exact HB.out))) : w.heap.size ≤ gb158)); have n3_ := Aside0.mk ((by rw [hg]; exact (below_size (by repeat (first | (with_reducible first | exact HB.out | apply below_alloc | apply pw_below_drewN | apply below_drew1) | exact HB.out))) : w.heap.size ≤ gb158)); clear HB; have HB := n0_; have BK158 := n1_; have GW158 := n2_; have GE158 := n3_; clear n0_ n1_ n2_ n3_; clear hb hbox hg; have hcz11_0 : w10.cell? ⟨gb158, 0, none⟩ = some (.int .i64 a0_0) := (blk_cell BK158.out 0).trans rfl; have hcz11_1 : w10.cell? ⟨gb158, 1, none⟩ = some (.bool false) := (blk_cell BK158.out 1).trans rfl; have hcz11_2 : w10.cell? ⟨gb158, 2, none⟩ = some (.string a0_2) := (blk_cell BK158.out 2).trans rfl; have hcz11_3 : w10.cell? ⟨gb158, 3, none⟩ = some (.bool a0_3) := (blk_cell BK158.out 3).trans rfl; have hcz11_4 : w10.cell? ⟨gb158, 4, none⟩ = some (.slice A0_4 l0_4.length c0_4) := (blk_cell BK158.out 4).trans rfl; have hcz11_5 : w10.cell? ⟨gb158, 5, none⟩ = some (.slice A0_5 l0_5.length c0_5) := (blk_cell BK158.out 5).trans rfl; have hcz11_6 : w10.cell? ⟨gb158, 6, none⟩ = some (.bool false) := (blk_cell BK158.out 6).trans rfl; have hcz11_7 : w10.cell? ⟨gb158, 7, none⟩ = some (.slice A0_7 l0_7.length c0_7) := (blk_cell BK158.out 7).trans rfl; have hcz11_8 : w10.cell? ⟨gb158, 8, none⟩ = some (.slice A0_8 l0_8.length c0_8) := (blk_cell BK158.out 8).trans rfl; have hfz11_0 := blk_frozen BK158.out 0; have hfz11_1 := blk_frozen BK158.out 1; have hfz11_2 := blk_frozen BK158.out 2; have hfz11_3 := blk_frozen BK158.out 3; have hfz11_4 := blk_frozen BK158.out 4; have hfz11_5 := blk_frozen BK158.out 5; have hfz11_6 := blk_frozen BK158.out 6; have hfz11_7 := blk_frozen BK158.out 7; have hfz11_8 := blk_frozen BK158.out 8))
          go_ret
          exact ⟨by first | rfl | (simp [errW_none, errW_some] <;> rfl) | (simp [*, errW_none, errW_some] <;> rfl), by repeat (first | (with_reducible first | exact HB.out | apply below_alloc | apply pw_below_drewN | apply below_drew1 | refine below_set ?_ GE158.out) | exact HB.out)⟩
        · rw [if_neg c9] at H
          have c9b0 : ((l0_7.length : Int) == 0) = false := beq_eq_false_iff_ne.mpr c9
          have c9b1 : ((l0_7.length : Int) != 0) = true := bne_iff_ne.mpr c9
          have c9b2 : ¬ (l0_7 = []) := fun h_ => c9 (by rw [h_]; rfl)
          obtain rfl := Option.some.inj H
          go_enter Tryz.func37, Tryz.ntmps37
          go_wp2_with (first | ((with_reducible refine gate_dst (N := 1) rfl ?_); (try (refine gate_guard (by rfl) ?_; dsimp only)); refine box_event ?hg (N := 1) ?hd (cs := #[.int .i64 a0_0, .bool false, .string a0_2, .bool a0_3, .slice A0_4 l0_4.length c0_4, .slice A0_5 l0_5.length c0_5, .bool false, .slice A0_7 l0_7.length c0_7, .slice A0_8 l0_8.length c0_8]) (t := 31) ?hr ?_; (case hd => rfl); (case hg => rfl); (case hr => first | (go_simp; done) | (go_simp; rfl)); intro gb158 hg w12 hbox hb; have n0_ := Aside0.mk (below_step (by repeat (first | (with_reducible first | exact HB.out | apply below_alloc | apply pw_below_drewN | apply below_drew1) | exact HB.out)) hb); have n1_ := Aside0.mk (hbox); have n2_ := Aside0.mk ((by rw [hg]; exact (below_size (by repeat (first | (with_reducible first | exact HB.out | apply below_alloc | apply pw_below_drewN | apply below_drew1) | exact HB.out))) : w.heap.size ≤ gb158)); have n3_ := Aside0.mk ((by rw [hg]; exact (below_size (by repeat (first | (with_reducible first | exact HB.out | apply below_alloc | apply pw_below_drewN | apply below_drew1) | exact HB.out))) : w.heap.size ≤ gb158)); clear HB; have HB := n0_; have BK158 := n1_; have GW158 := n2_; have GE158 := n3_; clear n0_ n1_ n2_ n3_; clear hb hbox hg; have hcz13_0 : w12.cell? ⟨gb158, 0, none⟩ = some (.int .i64 a0_0) := (blk_cell BK158.out 0).trans rfl; have hcz13_1 : w12.cell? ⟨gb158, 1, none⟩ = some (.bool false) := (blk_cell BK158.out 1).trans rfl; have hcz13_2 : w12.cell? ⟨gb158, 2, none⟩ = some (.string a0_2) := (blk_cell BK158.out 2).trans rfl; have hcz13_3 : w12.cell? ⟨gb158, 3, none⟩ = some (.bool a0_3) := (blk_cell BK158.out 3).trans rfl; have hcz13_4 : w12.cell? ⟨gb158, 4, none⟩ = some (.slice A0_4 l0_4.length c0_4) := (blk_cell BK158.out 4).trans rfl; have hcz13_5 : w12.cell? ⟨gb158, 5, none⟩ = some (.slice A0_5 l0_5.length c0_5) := (blk_cell BK158.out 5).trans rfl; have hcz13_6 : w12.cell? ⟨gb158, 6, none⟩ = some (.bool false) := (blk_cell BK158.out 6).trans rfl; have hcz13_7 : w12.cell? ⟨gb158, 7, none⟩ = some (.slice A0_7 l0_7.length c0_7) := (blk_cell BK158.out 7).trans rfl; have hcz13_8 : w12.cell? ⟨gb158, 8, none⟩ = some (.slice A0_8 l0_8.length c0_8) := (blk_cell BK158.out 8).trans rfl; have hfz13_0 := blk_frozen BK158.out 0; have hfz13_1 := blk_frozen BK158.out 1; have hfz13_2 := blk_frozen BK158.out 2; have hfz13_3 := blk_frozen BK158.out 3; have hfz13_4 := blk_frozen BK158.out 4; have hfz13_5 := blk_frozen BK158.out 5; have hfz13_6 := blk_frozen BK158.out 6; have hfz13_7 := blk_frozen BK158.out 7; have hfz13_8 := blk_frozen BK158.out 8))
          go_ret
          exact ⟨by first | rfl | (simp [errW_none, errW_some] <;> rfl) | (simp [*, errW_none, errW_some] <;> rfl), by repeat (first | (with_reducible first | exact HB.out | apply below_alloc | apply pw_below_drewN | apply below_drew1 | refine below_set ?_ GE158.out) | exact HB.out)⟩
    · rw [if_neg c5] at H
      have c5b0 : (a0_2.toList == ([] : List UInt8)) = false := beq_eq_false_iff_ne.mpr c5
      have c5b1 : (a0_2.toList != ([] : List UInt8)) = true := bne_iff_ne.mpr c5
      obtain rfl := Option.some.inj H
      go_enter Tryz.func37, Tryz.ntmps37
      go_wp2_with (first | ((with_reducible refine gate_dst (N := 1) rfl ?_); (try (refine gate_guard (by rfl) ?_; dsimp only)); refine box_event ?hg (N := 1) ?hd (cs := #[.int .i64 a0_0, .bool false, .string a0_2, .bool a0_3, .slice A0_4 l0_4.length c0_4, .slice A0_5 l0_5.length c0_5, .bool a0_6, .slice A0_7 l0_7.length c0_7, .slice A0_8 l0_8.length c0_8]) (t := 31) ?hr ?_; (case hd => rfl); (case hg => rfl); (case hr => first | (go_simp; done) | (go_simp; rfl)); intro gb158 hg w14 hbox hb; have n0_ := Aside0.mk (below_step (by repeat (first | (with_reducible first | exact HB.out | apply below_alloc | apply pw_below_drewN | apply below_drew1) | exact HB.out)) hb); have n1_ := Aside0.mk (hbox); have n2_ := Aside0.mk ((by rw [hg]; exact (below_size (by repeat (first | (with_reducible first | exact HB.out | apply below_alloc | apply pw_below_drewN | apply below_drew1) | exact HB.out))) : w.heap.size ≤ gb158)); have n3_ := Aside0.mk ((by rw [hg]; exact (below_size (by repeat (first | (with_reducible first | exact HB.out | apply below_alloc | apply pw_below_drewN | apply below_drew1) | exact HB.out))) : w.heap.size ≤ gb158)); clear HB; have HB := n0_; have BK158 := n1_; have GW158 := n2_; have GE158 := n3_; clear n0_ n1_ n2_ n3_; clear hb hbox hg; have hcz15_0 : w14.cell? ⟨gb158, 0, none⟩ = some (.int .i64 a0_0) := (blk_cell BK158.out 0).trans rfl; have hcz15_1 : w14.cell? ⟨gb158, 1, none⟩ = some (.bool false) := (blk_cell BK158.out 1).trans rfl; have hcz15_2 : w14.cell? ⟨gb158, 2, none⟩ = some (.string a0_2) := (blk_cell BK158.out 2).trans rfl; have hcz15_3 : w14.cell? ⟨gb158, 3, none⟩ = some (.bool a0_3) := (blk_cell BK158.out 3).trans rfl; have hcz15_4 : w14.cell? ⟨gb158, 4, none⟩ = some (.slice A0_4 l0_4.length c0_4) := (blk_cell BK158.out 4).trans rfl; have hcz15_5 : w14.cell? ⟨gb158, 5, none⟩ = some (.slice A0_5 l0_5.length c0_5) := (blk_cell BK158.out 5).trans rfl; have hcz15_6 : w14.cell? ⟨gb158, 6, none⟩ = some (.bool a0_6) := (blk_cell BK158.out 6).trans rfl; have hcz15_7 : w14.cell? ⟨gb158, 7, none⟩ = some (.slice A0_7 l0_7.length c0_7) := (blk_cell BK158.out 7).trans rfl; have hcz15_8 : w14.cell? ⟨gb158, 8, none⟩ = some (.slice A0_8 l0_8.length c0_8) := (blk_cell BK158.out 8).trans rfl; have hfz15_0 := blk_frozen BK158.out 0; have hfz15_1 := blk_frozen BK158.out 1; have hfz15_2 := blk_frozen BK158.out 2; have hfz15_3 := blk_frozen BK158.out 3; have hfz15_4 := blk_frozen BK158.out 4; have hfz15_5 := blk_frozen BK158.out 5; have hfz15_6 := blk_frozen BK158.out 6; have hfz15_7 := blk_frozen BK158.out 7; have hfz15_8 := blk_frozen BK158.out 8))
      go_ret
      exact ⟨by first | rfl | (simp [errW_none, errW_some] <;> rfl) | (simp [*, errW_none, errW_some] <;> rfl), by repeat (first | (with_reducible first | exact HB.out | apply below_alloc | apply pw_below_drewN | apply below_drew1 | refine below_set ?_ GE158.out) | exact HB.out)⟩

end Go.Proofs.YtnhonclncjgjoaaGreatDoor.Ps

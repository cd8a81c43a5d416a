/- The loop of internal/strconv.ParseUint at base 0 and 64 bits, and ParseInt over it: what they return is a plain function of the text. -/
import Derived.Test.YtnanfmjbdmfmkaaGreatDoorProg
import Derived.Test.YtnanfmjbdmfmkaaGreatDoorUok
namespace Go.Proofs.YtnanfmjbdmfmkaaGreatDoor
open Go Go.RowKit Go.Proofs.YtnanfmjbdmfmkaaGreatDoorW.PrintWords
set_option linter.unusedVariables false
set_option linter.unusedSimpArgs false

inductive PU where
  | syn | rng | ok (n : Int) (u : Bool)

def dig36 (c : Int) : Int := if 48 ≤ c ∧ c ≤ 57 then c - 48 else if 97 ≤ lowI c ∧ lowI c ≤ 122 then lowI c - 97 + 10 else 99

def puGo (base cut : Int) : List Int → Int → Bool → PU
  | [], n, u => .ok n u
  | c :: t, n, u => if c = 95 then puGo base cut t n true else if base ≤ dig36 c then .syn else if cut ≤ n then .rng else if 18446744073709551616 ≤ n * base + dig36 c then .rng else puGo base cut t (n * base + dig36 c) u

def puVal (s0 : ByteArray) : PU → Value
  | .syn => .tuple #[.int .u64 0, .iface 158 (.int .i64 2)]
  | .rng => .tuple #[.int .u64 18446744073709551615, .iface 158 (.int .i64 1)]
  | .ok n u => if u && !uOK s0 then .tuple #[.int .u64 0, .iface 158 (.int .i64 2)] else .tuple #[.int .u64 n, .nilIface]

def M64 : Int := 18446744073709551615
theorem m64_eq : IntKind.u64.wrap (IntKind.u64.wrap 18446744073709551616 - 1) = M64 := by decide
theorem wrap_over (x : Int) (h0 : 18446744073709551616 ≤ x) (h1 : x < 36893488147419103232) : IntKind.u64.wrap x = x - 18446744073709551616 := by
  rw [IntKind.wrap_u64]; omega

set_option maxRecDepth 100000 in
set_option maxHeartbeats 1000000 in
theorem pu10 (s : ByteArray) (hs : s.size ≤ 4096) (h0 : 0 < s.size) (hm : (bt s 0 == 45) = false) (hp : (bt s 0 == 43) = false) (hc : (bt s 0 == 48) = false) (w : World) :
    Calls Tryz.prog 76 #[.string s, .int .i64 0, .int .i64 64] w fun e w' => e = .returned (puVal s (puGo 10 1844674407370955162 (bytesOf s) 0 false)) ∧ Below w.heap.size w w' := by
  obtain ⟨R, hR⟩ : ∃ R, puGo 10 1844674407370955162 (bytesOf s) 0 false = R := ⟨_, rfl⟩
  rw [hR]
  have HR := Aside0.mk hR
  clear hR
  have HU := Aside0.mk (fun r hr w => uok_mono s hs (by omega) (by first | exact hm | (have := eq_of_beq hc; rw [this]; rfl)) (by first | exact hp | (have := eq_of_beq hc; rw [this]; rfl)) r hr w)
  have kb := fun W => print_bytes (P := Tryz.prog) 9 192 5 Tryz.underlying9 Tryz.underlying192 Tryz.underlying5 s W
  have hx : ∀ h : 0 < s.size, ((s[0]'h).toNat : Int) = bt s 0 := bt_at s 0
  have q0 := eq_true (show 0 < s.size by omega)
  have hne : (s.toList.isEmpty) = false := not_empty (by omega)
  go_enter Tryz.func76, Tryz.ntmps76
  go_wp2
  clear kb hx q0 hne hc hm hp
  rw [m64_eq]
  go_loop [12, 13, 101] (fun u n i => ∃ (k : Nat) (m : Int) (b : Bool), k ≤ s.size ∧ u = .bool b ∧ n = .int .u64 m ∧ i = .int .i64 k ∧ 0 ≤ m ∧ m < 18446744073709551616 ∧ Aside0 (puGo 10 1844674407370955162 ((bytesOf s).drop k) m b = R)) (fun _ _ i => s.size - (intOf i).toNat)
  case atStart => exact ⟨0, 0, false, by omega, rfl, rfl, rfl, by omega, by omega, HR⟩
  case round =>
    obtain ⟨k, m, b, hk, rfl, rfl, rfl, hm0, hm1, HP⟩ := hrel
    by_cases hlt : k < s.size
    · have hcell := bytes_cell w 5 s (by omega) k hlt
      have hP := HP.out
      rw [drop_bytes s k hlt, puGo] at hP
      have hb := bt_range s k
      obtain ⟨c, hc⟩ : ∃ c, bt s k = c := ⟨_, rfl⟩
      rw [hc] at hcell hP hb
      clear hc HP
      have hlr := lowI_range c (by omega) (by omega)
      by_cases c95 : c = 95
      · subst c95
        rw [if_pos rfl] at hP
        have HP := Aside0.mk hP
        clear hP
        go_wp2
        go_round
        case rel => exact ⟨k + 1, m, true, by omega, rfl, rfl, by go_num, hm0, hm1, HP⟩
        case measure => simp [intOf]; omega
      · rw [if_neg c95] at hP
        have c95b : (c == 95) = false := beq_eq_false_iff_ne.mpr c95
        by_cases h2 : 97 ≤ lowI c ∧ lowI c ≤ 122
        · obtain ⟨h3, h4⟩ := h2
          by_cases h1 : 48 ≤ c ∧ c ≤ 57
          · obtain ⟨h5, h6⟩ := h1
            exact absurd h3 (by have := lowI_dig c h5 h6; omega)
          · have hdig : dig36 c = lowI c - 97 + 10 := by unfold dig36; rw [if_neg h1, if_pos ⟨h3, h4⟩]
            rw [hdig] at hP
            clear hdig
            have h7 : c < 48 ∨ 57 < c := by omega
            clear h1
            by_cases hd : 10 ≤ lowI c - 97 + 10
            · rw [if_pos hd] at hP
              have HP := Aside0.mk hP
              clear hP
              rcases h7 with h7 | h7
              all_goals
                (go_wp2_with (go_at_call 119; (with_reducible refine (lower_any c _).mono ?_); rintro e w' ⟨rfl, rfl⟩)) <;> (go_ret2; exact ⟨by rw [← HP.out]; rfl, bytes_below (Below.refl _ _) (Nat.le_refl _) 5 _⟩)
            · rw [if_neg hd] at hP
              by_cases hn : 1844674407370955162 ≤ m
              · rw [if_pos hn] at hP
                have HP := Aside0.mk hP
                clear hP
                rcases h7 with h7 | h7
                all_goals
                  (go_wp2_with (go_at_call 119; (with_reducible refine (lower_any c _).mono ?_); rintro e w' ⟨rfl, rfl⟩)) <;> (go_ret2; exact ⟨by rw [← HP.out]; rfl, bytes_below (Below.refl _ _) (Nat.le_refl _) 5 _⟩)
              · rw [if_neg hn] at hP
                have hn' : m ≤ 1844674407370955161 := by omega
                by_cases ho : 18446744073709551616 ≤ m * 10 + (lowI c - 97 + 10)
                · rw [if_pos ho] at hP
                  have HP := Aside0.mk hP
                  clear hP
                  obtain ⟨q, hq⟩ : ∃ q, IntKind.u64.wrap (m * 10 + (lowI c - 97 + 10)) = q := ⟨_, rfl⟩
                  have hq1 : q < m * 10 := by rw [← hq, wrap_over _ ho (by omega)]; omega
                  clear ho
                  rcases h7 with h7 | h7
                  all_goals
                    (go_wp2_with (go_at_call 119; (with_reducible refine (lower_any c _).mono ?_); rintro e w' ⟨rfl, rfl⟩)) <;> (go_ret2; exact ⟨by rw [← HP.out]; rfl, bytes_below (Below.refl _ _) (Nat.le_refl _) 5 _⟩)
                · rw [if_neg ho] at hP
                  have HP := Aside0.mk hP
                  clear hP
                  have ho' : m * 10 + (lowI c - 97 + 10) ≤ M64 := by unfold M64; omega
                  have ho2 : m * 10 ≤ m * 10 + (lowI c - 97 + 10) := by omega
                  rcases h7 with h7 | h7
                  all_goals
                    (go_wp2_with (go_at_call 119; (with_reducible refine (lower_any c _).mono ?_); rintro e w' ⟨rfl, rfl⟩)) <;> (go_round; (case rel => exact ⟨k + 1, _, b, by omega, rfl, rfl, by go_num, by omega, by omega, HP⟩); (case measure => simp [intOf]; omega))
        · by_cases h1 : 48 ≤ c ∧ c ≤ 57
          · have hdig : dig36 c = c - 48 := by unfold dig36; rw [if_pos h1]
            obtain ⟨h5, h6⟩ := h1
            rw [hdig] at hP
            clear hdig
            by_cases hd : 10 ≤ c - 48
            · rw [if_pos hd] at hP
              have HP := Aside0.mk hP
              clear hP
              go_wp2
              go_ret2
              exact ⟨by rw [← HP.out]; rfl, bytes_below (Below.refl _ _) (Nat.le_refl _) 5 _⟩
            · rw [if_neg hd] at hP
              by_cases hn : 1844674407370955162 ≤ m
              · rw [if_pos hn] at hP
                have HP := Aside0.mk hP
                clear hP
                go_wp2
                go_ret2
                exact ⟨by rw [← HP.out]; rfl, bytes_below (Below.refl _ _) (Nat.le_refl _) 5 _⟩
              · rw [if_neg hn] at hP
                have hn' : m ≤ 1844674407370955161 := by omega
                by_cases ho : 18446744073709551616 ≤ m * 10 + (c - 48)
                · rw [if_pos ho] at hP
                  have HP := Aside0.mk hP
                  clear hP
                  obtain ⟨q, hq⟩ : ∃ q, IntKind.u64.wrap (m * 10 + (c - 48)) = q := ⟨_, rfl⟩
                  have hq1 : q < m * 10 := by rw [← hq, wrap_over _ ho (by omega)]; omega
                  clear ho
                  go_wp2
                  go_ret2
                  exact ⟨by rw [← HP.out]; rfl, bytes_below (Below.refl _ _) (Nat.le_refl _) 5 _⟩
                · rw [if_neg ho] at hP
                  have HP := Aside0.mk hP
                  clear hP
                  have ho' : m * 10 + (c - 48) ≤ M64 := by unfold M64; omega
                  have ho2 : m * 10 ≤ m * 10 + (c - 48) := by omega
                  go_wp2
                  go_round
                  case rel => exact ⟨k + 1, _, b, by omega, rfl, rfl, by go_num, by omega, by omega, HP⟩
                  case measure => simp [intOf]; omega
          · have hdig : dig36 c = 99 := by unfold dig36; rw [if_neg h1, if_neg h2]
            rw [hdig, if_pos (by omega)] at hP
            have HP := Aside0.mk hP
            clear hP hdig
            have h7 : c < 48 ∨ 57 < c := by omega
            have h8 : lowI c < 97 ∨ 122 < lowI c := by omega
            clear h1 h2
            rcases h7 with h7 | h7 <;> rcases h8 with h8 | h8
            all_goals
              (go_wp2_with (go_at_call 119; (with_reducible refine (lower_any c _).mono ?_); rintro e w' ⟨rfl, rfl⟩)) <;> (go_ret2; exact ⟨by rw [← HP.out]; rfl, bytes_below (Below.refl _ _) (Nat.le_refl _) 5 _⟩)
    · have hP := HP.out
      rw [drop_bytes_end s k hlt, puGo] at hP
      have HP := Aside0.mk hP
      clear hP
      cases b with
      | false =>
        go_wp2
        go_ret2
        exact ⟨by rw [← HP.out]; rfl, bytes_below (Below.refl _ _) (Nat.le_refl _) 5 _⟩
      | true =>
        cases hu : uOK s with
        | true =>
          have hum := fun w => HU.out true hu w
          go_wp2_with (go_at_call 120; (with_reducible refine (hum _).mono ?_); rintro e w' ⟨rfl, ⟨nd, rfl⟩⟩)
          go_ret2
          exact ⟨by rw [← HP.out]; simp [puVal, hu], pw_below_drewN (bytes_below (Below.refl _ _) (Nat.le_refl _) 5 _) _⟩
        | false =>
          have hum := fun w => HU.out false hu w
          go_wp2_with (go_at_call 120; (with_reducible refine (hum _).mono ?_); rintro e w' ⟨rfl, ⟨nd, rfl⟩⟩)
          go_ret2
          exact ⟨by rw [← HP.out]; simp [puVal, hu], pw_below_drewN (bytes_below (Below.refl _ _) (Nat.le_refl _) 5 _) _⟩

set_option maxRecDepth 100000 in
set_option maxHeartbeats 1000000 in
theorem pu2 (s : ByteArray) (hs : s.size ≤ 4096) (S : ByteArray) (hE : s.extract 2 s.size = S) (hSs : S.size ≤ 4096) (h0 : 3 ≤ s.size) (hc : (bt s 0 == 48) = true) (hl : (lowI (bt s 1) == 98) = true) (w : World) :
    Calls Tryz.prog 76 #[.string s, .int .i64 0, .int .i64 64] w fun e w' => e = .returned (puVal s (puGo 2 9223372036854775808 (bytesOf S) 0 false)) ∧ Below w.heap.size w w' := by
  obtain ⟨R, hR⟩ : ∃ R, puGo 2 9223372036854775808 (bytesOf S) 0 false = R := ⟨_, rfl⟩
  rw [hR]
  have HR := Aside0.mk hR
  clear hR
  have HU := Aside0.mk (fun r hr w => uok_mono s hs (by omega) (by first | exact hm | (have := eq_of_beq hc; rw [this]; rfl)) (by first | exact hp | (have := eq_of_beq hc; rw [this]; rfl)) r hr w)
  have kb := fun W => print_bytes (P := Tryz.prog) 9 192 5 Tryz.underlying9 Tryz.underlying192 Tryz.underlying5 S W
  have hx : ∀ h : 0 < s.size, ((s[0]'h).toNat : Int) = bt s 0 := bt_at s 0
  have q0 := eq_true (show 0 < s.size by omega)
  have hne : (s.toList.isEmpty) = false := not_empty (by omega)
  have hx1 : ∀ h : 1 < s.size, ((s[1]'h).toNat : Int) = bt s 1 := bt_at s 1
  have q1 := eq_true (show 1 < s.size by omega)
  go_enter Tryz.func76, Tryz.ntmps76
  go_wp2_with (go_at_call 119; (with_reducible refine (lower_any (bt s 1) _).mono ?_); rintro e w' ⟨rfl, rfl⟩)
  clear hE kb hx q0 hne hc hx1 q1 hl
  rw [m64_eq]
  go_loop [12, 13, 101] (fun u n i => ∃ (k : Nat) (m : Int) (b : Bool), k ≤ S.size ∧ u = .bool b ∧ n = .int .u64 m ∧ i = .int .i64 k ∧ 0 ≤ m ∧ m < 18446744073709551616 ∧ Aside0 (puGo 2 9223372036854775808 ((bytesOf S).drop k) m b = R)) (fun _ _ i => S.size - (intOf i).toNat)
  case atStart => exact ⟨0, 0, false, by omega, rfl, rfl, rfl, by omega, by omega, HR⟩
  case round =>
    obtain ⟨k, m, b, hk, rfl, rfl, rfl, hm0, hm1, HP⟩ := hrel
    by_cases hlt : k < S.size
    · have hcell := bytes_cell w 5 S (by omega) k hlt
      have hP := HP.out
      rw [drop_bytes S k hlt, puGo] at hP
      have hb := bt_range S k
      obtain ⟨c, hc⟩ : ∃ c, bt S k = c := ⟨_, rfl⟩
      rw [hc] at hcell hP hb
      clear hc HP
      have hlr := lowI_range c (by omega) (by omega)
      by_cases c95 : c = 95
      · subst c95
        rw [if_pos rfl] at hP
        have HP := Aside0.mk hP
        clear hP
        go_wp2
        go_round
        case rel => exact ⟨k + 1, m, true, by omega, rfl, rfl, by go_num, hm0, hm1, HP⟩
        case measure => simp [intOf]; omega
      · rw [if_neg c95] at hP
        have c95b : (c == 95) = false := beq_eq_false_iff_ne.mpr c95
        by_cases h2 : 97 ≤ lowI c ∧ lowI c ≤ 122
        · obtain ⟨h3, h4⟩ := h2
          by_cases h1 : 48 ≤ c ∧ c ≤ 57
          · obtain ⟨h5, h6⟩ := h1
            exact absurd h3 (by have := lowI_dig c h5 h6; omega)
          · have hdig : dig36 c = lowI c - 97 + 10 := by unfold dig36; rw [if_neg h1, if_pos ⟨h3, h4⟩]
            rw [hdig] at hP
            clear hdig
            have h7 : c < 48 ∨ 57 < c := by omega
            clear h1
            by_cases hd : 2 ≤ lowI c - 97 + 10
            · rw [if_pos hd] at hP
              have HP := Aside0.mk hP
              clear hP
              rcases h7 with h7 | h7
              all_goals
                (go_wp2_with (go_at_call 119; (with_reducible refine (lower_any c _).mono ?_); rintro e w' ⟨rfl, rfl⟩)) <;> (go_ret2; exact ⟨by rw [← HP.out]; rfl, bytes_below (Below.refl _ _) (Nat.le_refl _) 5 _⟩)
            · rw [if_neg hd] at hP
              by_cases hn : 9223372036854775808 ≤ m
              · rw [if_pos hn] at hP
                have HP := Aside0.mk hP
                clear hP
                rcases h7 with h7 | h7
                all_goals
                  (go_wp2_with (go_at_call 119; (with_reducible refine (lower_any c _).mono ?_); rintro e w' ⟨rfl, rfl⟩)) <;> (go_ret2; exact ⟨by rw [← HP.out]; rfl, bytes_below (Below.refl _ _) (Nat.le_refl _) 5 _⟩)
              · rw [if_neg hn] at hP
                have hn' : m ≤ 9223372036854775807 := by omega
                by_cases ho : 18446744073709551616 ≤ m * 2 + (lowI c - 97 + 10)
                · rw [if_pos ho] at hP
                  have HP := Aside0.mk hP
                  clear hP
                  obtain ⟨q, hq⟩ : ∃ q, IntKind.u64.wrap (m * 2 + (lowI c - 97 + 10)) = q := ⟨_, rfl⟩
                  have hq1 : q < m * 2 := by rw [← hq, wrap_over _ ho (by omega)]; omega
                  clear ho
                  rcases h7 with h7 | h7
                  all_goals
                    (go_wp2_with (go_at_call 119; (with_reducible refine (lower_any c _).mono ?_); rintro e w' ⟨rfl, rfl⟩)) <;> (go_ret2; exact ⟨by rw [← HP.out]; rfl, bytes_below (Below.refl _ _) (Nat.le_refl _) 5 _⟩)
                · rw [if_neg ho] at hP
                  have HP := Aside0.mk hP
                  clear hP
                  have ho' : m * 2 + (lowI c - 97 + 10) ≤ M64 := by unfold M64; omega
                  have ho2 : m * 2 ≤ m * 2 + (lowI c - 97 + 10) := by omega
                  rcases h7 with h7 | h7
                  all_goals
                    (go_wp2_with (go_at_call 119; (with_reducible refine (lower_any c _).mono ?_); rintro e w' ⟨rfl, rfl⟩)) <;> (go_round; (case rel => exact ⟨k + 1, _, b, by omega, rfl, rfl, by go_num, by omega, by omega, HP⟩); (case measure => simp [intOf]; omega))
        · by_cases h1 : 48 ≤ c ∧ c ≤ 57
          · have hdig : dig36 c = c - 48 := by unfold dig36; rw [if_pos h1]
            obtain ⟨h5, h6⟩ := h1
            rw [hdig] at hP
            clear hdig
            by_cases hd : 2 ≤ c - 48
            · rw [if_pos hd] at hP
              have HP := Aside0.mk hP
              clear hP
              go_wp2
              go_ret2
              exact ⟨by rw [← HP.out]; rfl, bytes_below (Below.refl _ _) (Nat.le_refl _) 5 _⟩
            · rw [if_neg hd] at hP
              by_cases hn : 9223372036854775808 ≤ m
              · rw [if_pos hn] at hP
                have HP := Aside0.mk hP
                clear hP
                go_wp2
                go_ret2
                exact ⟨by rw [← HP.out]; rfl, bytes_below (Below.refl _ _) (Nat.le_refl _) 5 _⟩
              · rw [if_neg hn] at hP
                have hn' : m ≤ 9223372036854775807 := by omega
                by_cases ho : 18446744073709551616 ≤ m * 2 + (c - 48)
                · rw [if_pos ho] at hP
                  have HP := Aside0.mk hP
                  clear hP
                  obtain ⟨q, hq⟩ : ∃ q, IntKind.u64.wrap (m * 2 + (c - 48)) = q := ⟨_, rfl⟩
                  have hq1 : q < m * 2 := by rw [← hq, wrap_over _ ho (by omega)]; omega
                  clear ho
                  go_wp2
                  go_ret2
                  exact ⟨by rw [← HP.out]; rfl, bytes_below (Below.refl _ _) (Nat.le_refl _) 5 _⟩
                · rw [if_neg ho] at hP
                  have HP := Aside0.mk hP
                  clear hP
                  have ho' : m * 2 + (c - 48) ≤ M64 := by unfold M64; omega
                  have ho2 : m * 2 ≤ m * 2 + (c - 48) := by omega
                  go_wp2
                  go_round
                  case rel => exact ⟨k + 1, _, b, by omega, rfl, rfl, by go_num, by omega, by omega, HP⟩
                  case measure => simp [intOf]; omega
          · have hdig : dig36 c = 99 := by unfold dig36; rw [if_neg h1, if_neg h2]
            rw [hdig, if_pos (by omega)] at hP
            have HP := Aside0.mk hP
            clear hP hdig
            have h7 : c < 48 ∨ 57 < c := by omega
            have h8 : lowI c < 97 ∨ 122 < lowI c := by omega
            clear h1 h2
            rcases h7 with h7 | h7 <;> rcases h8 with h8 | h8
            all_goals
              (go_wp2_with (go_at_call 119; (with_reducible refine (lower_any c _).mono ?_); rintro e w' ⟨rfl, rfl⟩)) <;> (go_ret2; exact ⟨by rw [← HP.out]; rfl, bytes_below (Below.refl _ _) (Nat.le_refl _) 5 _⟩)
    · have hP := HP.out
      rw [drop_bytes_end S k hlt, puGo] at hP
      have HP := Aside0.mk hP
      clear hP
      cases b with
      | false =>
        go_wp2
        go_ret2
        exact ⟨by rw [← HP.out]; rfl, bytes_below (Below.refl _ _) (Nat.le_refl _) 5 _⟩
      | true =>
        cases hu : uOK s with
        | true =>
          have hum := fun w => HU.out true hu w
          go_wp2_with (go_at_call 120; (with_reducible refine (hum _).mono ?_); rintro e w' ⟨rfl, ⟨nd, rfl⟩⟩)
          go_ret2
          exact ⟨by rw [← HP.out]; simp [puVal, hu], pw_below_drewN (bytes_below (Below.refl _ _) (Nat.le_refl _) 5 _) _⟩
        | false =>
          have hum := fun w => HU.out false hu w
          go_wp2_with (go_at_call 120; (with_reducible refine (hum _).mono ?_); rintro e w' ⟨rfl, ⟨nd, rfl⟩⟩)
          go_ret2
          exact ⟨by rw [← HP.out]; simp [puVal, hu], pw_below_drewN (bytes_below (Below.refl _ _) (Nat.le_refl _) 5 _) _⟩

set_option maxRecDepth 100000 in
set_option maxHeartbeats 1000000 in
theorem pu8 (s : ByteArray) (hs : s.size ≤ 4096) (S : ByteArray) (hE : s.extract 2 s.size = S) (hSs : S.size ≤ 4096) (h0 : 3 ≤ s.size) (hc : (bt s 0 == 48) = true) (hl98 : (lowI (bt s 1) == 98) = false) (hl : (lowI (bt s 1) == 111) = true) (w : World) :
    Calls Tryz.prog 76 #[.string s, .int .i64 0, .int .i64 64] w fun e w' => e = .returned (puVal s (puGo 8 2305843009213693952 (bytesOf S) 0 false)) ∧ Below w.heap.size w w' := by
  obtain ⟨R, hR⟩ : ∃ R, puGo 8 2305843009213693952 (bytesOf S) 0 false = R := ⟨_, rfl⟩
  rw [hR]
  have HR := Aside0.mk hR
  clear hR
  have HU := Aside0.mk (fun r hr w => uok_mono s hs (by omega) (by first | exact hm | (have := eq_of_beq hc; rw [this]; rfl)) (by first | exact hp | (have := eq_of_beq hc; rw [this]; rfl)) r hr w)
  have kb := fun W => print_bytes (P := Tryz.prog) 9 192 5 Tryz.underlying9 Tryz.underlying192 Tryz.underlying5 S W
  have hx : ∀ h : 0 < s.size, ((s[0]'h).toNat : Int) = bt s 0 := bt_at s 0
  have q0 := eq_true (show 0 < s.size by omega)
  have hne : (s.toList.isEmpty) = false := not_empty (by omega)
  have hx1 : ∀ h : 1 < s.size, ((s[1]'h).toNat : Int) = bt s 1 := bt_at s 1
  have q1 := eq_true (show 1 < s.size by omega)
  go_enter Tryz.func76, Tryz.ntmps76
  go_wp2_with (go_at_call 119; (with_reducible refine (lower_any (bt s 1) _).mono ?_); rintro e w' ⟨rfl, rfl⟩)
  clear hE kb hx q0 hne hc hx1 q1 hl hl98
  rw [m64_eq]
  go_loop [12, 13, 101] (fun u n i => ∃ (k : Nat) (m : Int) (b : Bool), k ≤ S.size ∧ u = .bool b ∧ n = .int .u64 m ∧ i = .int .i64 k ∧ 0 ≤ m ∧ m < 18446744073709551616 ∧ Aside0 (puGo 8 2305843009213693952 ((bytesOf S).drop k) m b = R)) (fun _ _ i => S.size - (intOf i).toNat)
  case atStart => exact ⟨0, 0, false, by omega, rfl, rfl, rfl, by omega, by omega, HR⟩
  case round =>
    obtain ⟨k, m, b, hk, rfl, rfl, rfl, hm0, hm1, HP⟩ := hrel
    by_cases hlt : k < S.size
    · have hcell := bytes_cell w 5 S (by omega) k hlt
      have hP := HP.out
      rw [drop_bytes S k hlt, puGo] at hP
      have hb := bt_range S k
      obtain ⟨c, hc⟩ : ∃ c, bt S k = c := ⟨_, rfl⟩
      rw [hc] at hcell hP hb
      clear hc HP
      have hlr := lowI_range c (by omega) (by omega)
      by_cases c95 : c = 95
      · subst c95
        rw [if_pos rfl] at hP
        have HP := Aside0.mk hP
        clear hP
        go_wp2
        go_round
        case rel => exact ⟨k + 1, m, true, by omega, rfl, rfl, by go_num, hm0, hm1, HP⟩
        case measure => simp [intOf]; omega
      · rw [if_neg c95] at hP
        have c95b : (c == 95) = false := beq_eq_false_iff_ne.mpr c95
        by_cases h2 : 97 ≤ lowI c ∧ lowI c ≤ 122
        · obtain ⟨h3, h4⟩ := h2
          by_cases h1 : 48 ≤ c ∧ c ≤ 57
          · obtain ⟨h5, h6⟩ := h1
            exact absurd h3 (by have := lowI_dig c h5 h6; omega)
          · have hdig : dig36 c = lowI c - 97 + 10 := by unfold dig36; rw [if_neg h1, if_pos ⟨h3, h4⟩]
            rw [hdig] at hP
            clear hdig
            have h7 : c < 48 ∨ 57 < c := by omega
            clear h1
            by_cases hd : 8 ≤ lowI c - 97 + 10
            · rw [if_pos hd] at hP
              have HP := Aside0.mk hP
              clear hP
              rcases h7 with h7 | h7
              all_goals
                (go_wp2_with (go_at_call 119; (with_reducible refine (lower_any c _).mono ?_); rintro e w' ⟨rfl, rfl⟩)) <;> (go_ret2; exact ⟨by rw [← HP.out]; rfl, bytes_below (Below.refl _ _) (Nat.le_refl _) 5 _⟩)
            · rw [if_neg hd] at hP
              by_cases hn : 2305843009213693952 ≤ m
              · rw [if_pos hn] at hP
                have HP := Aside0.mk hP
                clear hP
                rcases h7 with h7 | h7
                all_goals
                  (go_wp2_with (go_at_call 119; (with_reducible refine (lower_any c _).mono ?_); rintro e w' ⟨rfl, rfl⟩)) <;> (go_ret2; exact ⟨by rw [← HP.out]; rfl, bytes_below (Below.refl _ _) (Nat.le_refl _) 5 _⟩)
              · rw [if_neg hn] at hP
                have hn' : m ≤ 2305843009213693951 := by omega
                by_cases ho : 18446744073709551616 ≤ m * 8 + (lowI c - 97 + 10)
                · rw [if_pos ho] at hP
                  have HP := Aside0.mk hP
                  clear hP
                  obtain ⟨q, hq⟩ : ∃ q, IntKind.u64.wrap (m * 8 + (lowI c - 97 + 10)) = q := ⟨_, rfl⟩
                  have hq1 : q < m * 8 := by rw [← hq, wrap_over _ ho (by omega)]; omega
                  clear ho
                  rcases h7 with h7 | h7
                  all_goals
                    (go_wp2_with (go_at_call 119; (with_reducible refine (lower_any c _).mono ?_); rintro e w' ⟨rfl, rfl⟩)) <;> (go_ret2; exact ⟨by rw [← HP.out]; rfl, bytes_below (Below.refl _ _) (Nat.le_refl _) 5 _⟩)
                · rw [if_neg ho] at hP
                  have HP := Aside0.mk hP
                  clear hP
                  have ho' : m * 8 + (lowI c - 97 + 10) ≤ M64 := by unfold M64; omega
                  have ho2 : m * 8 ≤ m * 8 + (lowI c - 97 + 10) := by omega
                  rcases h7 with h7 | h7
                  all_goals
                    (go_wp2_with (go_at_call 119; (with_reducible refine (lower_any c _).mono ?_); rintro e w' ⟨rfl, rfl⟩)) <;> (go_round; (case rel => exact ⟨k + 1, _, b, by omega, rfl, rfl, by go_num, by omega, by omega, HP⟩); (case measure => simp [intOf]; omega))
        · by_cases h1 : 48 ≤ c ∧ c ≤ 57
          · have hdig : dig36 c = c - 48 := by unfold dig36; rw [if_pos h1]
            obtain ⟨h5, h6⟩ := h1
            rw [hdig] at hP
            clear hdig
            by_cases hd : 8 ≤ c - 48
            · rw [if_pos hd] at hP
              have HP := Aside0.mk hP
              clear hP
              go_wp2
              go_ret2
              exact ⟨by rw [← HP.out]; rfl, bytes_below (Below.refl _ _) (Nat.le_refl _) 5 _⟩
            · rw [if_neg hd] at hP
              by_cases hn : 2305843009213693952 ≤ m
              · rw [if_pos hn] at hP
                have HP := Aside0.mk hP
                clear hP
                go_wp2
                go_ret2
                exact ⟨by rw [← HP.out]; rfl, bytes_below (Below.refl _ _) (Nat.le_refl _) 5 _⟩
              · rw [if_neg hn] at hP
                have hn' : m ≤ 2305843009213693951 := by omega
                by_cases ho : 18446744073709551616 ≤ m * 8 + (c - 48)
                · rw [if_pos ho] at hP
                  have HP := Aside0.mk hP
                  clear hP
                  obtain ⟨q, hq⟩ : ∃ q, IntKind.u64.wrap (m * 8 + (c - 48)) = q := ⟨_, rfl⟩
                  have hq1 : q < m * 8 := by rw [← hq, wrap_over _ ho (by omega)]; omega
                  clear ho
                  go_wp2
                  go_ret2
                  exact ⟨by rw [← HP.out]; rfl, bytes_below (Below.refl _ _) (Nat.le_refl _) 5 _⟩
                · rw [if_neg ho] at hP
                  have HP := Aside0.mk hP
                  clear hP
                  have ho' : m * 8 + (c - 48) ≤ M64 := by unfold M64; omega
                  have ho2 : m * 8 ≤ m * 8 + (c - 48) := by omega
                  go_wp2
                  go_round
                  case rel => exact ⟨k + 1, _, b, by omega, rfl, rfl, by go_num, by omega, by omega, HP⟩
                  case measure => simp [intOf]; omega
          · have hdig : dig36 c = 99 := by unfold dig36; rw [if_neg h1, if_neg h2]
            rw [hdig, if_pos (by omega)] at hP
            have HP := Aside0.mk hP
            clear hP hdig
            have h7 : c < 48 ∨ 57 < c := by omega
            have h8 : lowI c < 97 ∨ 122 < lowI c := by omega
            clear h1 h2
            rcases h7 with h7 | h7 <;> rcases h8 with h8 | h8
            all_goals
              (go_wp2_with (go_at_call 119; (with_reducible refine (lower_any c _).mono ?_); rintro e w' ⟨rfl, rfl⟩)) <;> (go_ret2; exact ⟨by rw [← HP.out]; rfl, bytes_below (Below.refl _ _) (Nat.le_refl _) 5 _⟩)
    · have hP := HP.out
      rw [drop_bytes_end S k hlt, puGo] at hP
      have HP := Aside0.mk hP
      clear hP
      cases b with
      | false =>
        go_wp2
        go_ret2
        exact ⟨by rw [← HP.out]; rfl, bytes_below (Below.refl _ _) (Nat.le_refl _) 5 _⟩
      | true =>
        cases hu : uOK s with
        | true =>
          have hum := fun w => HU.out true hu w
          go_wp2_with (go_at_call 120; (with_reducible refine (hum _).mono ?_); rintro e w' ⟨rfl, ⟨nd, rfl⟩⟩)
          go_ret2
          exact ⟨by rw [← HP.out]; simp [puVal, hu], pw_below_drewN (bytes_below (Below.refl _ _) (Nat.le_refl _) 5 _) _⟩
        | false =>
          have hum := fun w => HU.out false hu w
          go_wp2_with (go_at_call 120; (with_reducible refine (hum _).mono ?_); rintro e w' ⟨rfl, ⟨nd, rfl⟩⟩)
          go_ret2
          exact ⟨by rw [← HP.out]; simp [puVal, hu], pw_below_drewN (bytes_below (Below.refl _ _) (Nat.le_refl _) 5 _) _⟩

set_option maxRecDepth 100000 in
set_option maxHeartbeats 1000000 in
theorem pu16 (s : ByteArray) (hs : s.size ≤ 4096) (S : ByteArray) (hE : s.extract 2 s.size = S) (hSs : S.size ≤ 4096) (h0 : 3 ≤ s.size) (hc : (bt s 0 == 48) = true) (hl98 : (lowI (bt s 1) == 98) = false) (hl111 : (lowI (bt s 1) == 111) = false) (hl : (lowI (bt s 1) == 120) = true) (w : World) :
    Calls Tryz.prog 76 #[.string s, .int .i64 0, .int .i64 64] w fun e w' => e = .returned (puVal s (puGo 16 1152921504606846976 (bytesOf S) 0 false)) ∧ Below w.heap.size w w' := by
  obtain ⟨R, hR⟩ : ∃ R, puGo 16 1152921504606846976 (bytesOf S) 0 false = R := ⟨_, rfl⟩
  rw [hR]
  have HR := Aside0.mk hR
  clear hR
  have HU := Aside0.mk (fun r hr w => uok_mono s hs (by omega) (by first | exact hm | (have := eq_of_beq hc; rw [this]; rfl)) (by first | exact hp | (have := eq_of_beq hc; rw [this]; rfl)) r hr w)
  have kb := fun W => print_bytes (P := Tryz.prog) 9 192 5 Tryz.underlying9 Tryz.underlying192 Tryz.underlying5 S W
  have hx : ∀ h : 0 < s.size, ((s[0]'h).toNat : Int) = bt s 0 := bt_at s 0
  have q0 := eq_true (show 0 < s.size by omega)
  have hne : (s.toList.isEmpty) = false := not_empty (by omega)
  have hx1 : ∀ h : 1 < s.size, ((s[1]'h).toNat : Int) = bt s 1 := bt_at s 1
  have q1 := eq_true (show 1 < s.size by omega)
  go_enter Tryz.func76, Tryz.ntmps76
  go_wp2_with (go_at_call 119; (with_reducible refine (lower_any (bt s 1) _).mono ?_); rintro e w' ⟨rfl, rfl⟩)
  clear hE kb hx q0 hne hc hx1 q1 hl hl98 hl111
  rw [m64_eq]
  go_loop [12, 13, 101] (fun u n i => ∃ (k : Nat) (m : Int) (b : Bool), k ≤ S.size ∧ u = .bool b ∧ n = .int .u64 m ∧ i = .int .i64 k ∧ 0 ≤ m ∧ m < 18446744073709551616 ∧ Aside0 (puGo 16 1152921504606846976 ((bytesOf S).drop k) m b = R)) (fun _ _ i => S.size - (intOf i).toNat)
  case atStart => exact ⟨0, 0, false, by omega, rfl, rfl, rfl, by omega, by omega, HR⟩
  case round =>
    obtain ⟨k, m, b, hk, rfl, rfl, rfl, hm0, hm1, HP⟩ := hrel
    by_cases hlt : k < S.size
    · have hcell := bytes_cell w 5 S (by omega) k hlt
      have hP := HP.out
      rw [drop_bytes S k hlt, puGo] at hP
      have hb := bt_range S k
      obtain ⟨c, hc⟩ : ∃ c, bt S k = c := ⟨_, rfl⟩
      rw [hc] at hcell hP hb
      clear hc HP
      have hlr := lowI_range c (by omega) (by omega)
      by_cases c95 : c = 95
      · subst c95
        rw [if_pos rfl] at hP
        have HP := Aside0.mk hP
        clear hP
        go_wp2
        go_round
        case rel => exact ⟨k + 1, m, true, by omega, rfl, rfl, by go_num, hm0, hm1, HP⟩
        case measure => simp [intOf]; omega
      · rw [if_neg c95] at hP
        have c95b : (c == 95) = false := beq_eq_false_iff_ne.mpr c95
        by_cases h2 : 97 ≤ lowI c ∧ lowI c ≤ 122
        · obtain ⟨h3, h4⟩ := h2
          by_cases h1 : 48 ≤ c ∧ c ≤ 57
          · obtain ⟨h5, h6⟩ := h1
            exact absurd h3 (by have := lowI_dig c h5 h6; omega)
          · have hdig : dig36 c = lowI c - 97 + 10 := by unfold dig36; rw [if_neg h1, if_pos ⟨h3, h4⟩]
            rw [hdig] at hP
            clear hdig
            have h7 : c < 48 ∨ 57 < c := by omega
            clear h1
            by_cases hd : 16 ≤ lowI c - 97 + 10
            · rw [if_pos hd] at hP
              have HP := Aside0.mk hP
              clear hP
              rcases h7 with h7 | h7
              all_goals
                (go_wp2_with (go_at_call 119; (with_reducible refine (lower_any c _).mono ?_); rintro e w' ⟨rfl, rfl⟩)) <;> (go_ret2; exact ⟨by rw [← HP.out]; rfl, bytes_below (Below.refl _ _) (Nat.le_refl _) 5 _⟩)
            · rw [if_neg hd] at hP
              by_cases hn : 1152921504606846976 ≤ m
              · rw [if_pos hn] at hP
                have HP := Aside0.mk hP
                clear hP
                rcases h7 with h7 | h7
                all_goals
                  (go_wp2_with (go_at_call 119; (with_reducible refine (lower_any c _).mono ?_); rintro e w' ⟨rfl, rfl⟩)) <;> (go_ret2; exact ⟨by rw [← HP.out]; rfl, bytes_below (Below.refl _ _) (Nat.le_refl _) 5 _⟩)
              · rw [if_neg hn] at hP
                have hn' : m ≤ 1152921504606846975 := by omega
                by_cases ho : 18446744073709551616 ≤ m * 16 + (lowI c - 97 + 10)
                · rw [if_pos ho] at hP
                  have HP := Aside0.mk hP
                  clear hP
                  obtain ⟨q, hq⟩ : ∃ q, IntKind.u64.wrap (m * 16 + (lowI c - 97 + 10)) = q := ⟨_, rfl⟩
                  have hq1 : q < m * 16 := by rw [← hq, wrap_over _ ho (by omega)]; omega
                  clear ho
                  rcases h7 with h7 | h7
                  all_goals
                    (go_wp2_with (go_at_call 119; (with_reducible refine (lower_any c _).mono ?_); rintro e w' ⟨rfl, rfl⟩)) <;> (go_ret2; exact ⟨by rw [← HP.out]; rfl, bytes_below (Below.refl _ _) (Nat.le_refl _) 5 _⟩)
                · rw [if_neg ho] at hP
                  have HP := Aside0.mk hP
                  clear hP
                  have ho' : m * 16 + (lowI c - 97 + 10) ≤ M64 := by unfold M64; omega
                  have ho2 : m * 16 ≤ m * 16 + (lowI c - 97 + 10) := by omega
                  rcases h7 with h7 | h7
                  all_goals
                    (go_wp2_with (go_at_call 119; (with_reducible refine (lower_any c _).mono ?_); rintro e w' ⟨rfl, rfl⟩)) <;> (go_round; (case rel => exact ⟨k + 1, _, b, by omega, rfl, rfl, by go_num, by omega, by omega, HP⟩); (case measure => simp [intOf]; omega))
        · by_cases h1 : 48 ≤ c ∧ c ≤ 57
          · have hdig : dig36 c = c - 48 := by unfold dig36; rw [if_pos h1]
            obtain ⟨h5, h6⟩ := h1
            rw [hdig] at hP
            clear hdig
            by_cases hd : 16 ≤ c - 48
            · rw [if_pos hd] at hP
              have HP := Aside0.mk hP
              clear hP
              go_wp2
              go_ret2
              exact ⟨by rw [← HP.out]; rfl, bytes_below (Below.refl _ _) (Nat.le_refl _) 5 _⟩
            · rw [if_neg hd] at hP
              by_cases hn : 1152921504606846976 ≤ m
              · rw [if_pos hn] at hP
                have HP := Aside0.mk hP
                clear hP
                go_wp2
                go_ret2
                exact ⟨by rw [← HP.out]; rfl, bytes_below (Below.refl _ _) (Nat.le_refl _) 5 _⟩
              · rw [if_neg hn] at hP
                have hn' : m ≤ 1152921504606846975 := by omega
                by_cases ho : 18446744073709551616 ≤ m * 16 + (c - 48)
                · rw [if_pos ho] at hP
                  have HP := Aside0.mk hP
                  clear hP
                  obtain ⟨q, hq⟩ : ∃ q, IntKind.u64.wrap (m * 16 + (c - 48)) = q := ⟨_, rfl⟩
                  have hq1 : q < m * 16 := by rw [← hq, wrap_over _ ho (by omega)]; omega
                  clear ho
                  go_wp2
                  go_ret2
                  exact ⟨by rw [← HP.out]; rfl, bytes_below (Below.refl _ _) (Nat.le_refl _) 5 _⟩
                · rw [if_neg ho] at hP
                  have HP := Aside0.mk hP
                  clear hP
                  have ho' : m * 16 + (c - 48) ≤ M64 := by unfold M64; omega
                  have ho2 : m * 16 ≤ m * 16 + (c - 48) := by omega
                  go_wp2
                  go_round
                  case rel => exact ⟨k + 1, _, b, by omega, rfl, rfl, by go_num, by omega, by omega, HP⟩
                  case measure => simp [intOf]; omega
          · have hdig : dig36 c = 99 := by unfold dig36; rw [if_neg h1, if_neg h2]
            rw [hdig, if_pos (by omega)] at hP
            have HP := Aside0.mk hP
            clear hP hdig
            have h7 : c < 48 ∨ 57 < c := by omega
            have h8 : lowI c < 97 ∨ 122 < lowI c := by omega
            clear h1 h2
            rcases h7 with h7 | h7 <;> rcases h8 with h8 | h8
            all_goals
              (go_wp2_with (go_at_call 119; (with_reducible refine (lower_any c _).mono ?_); rintro e w' ⟨rfl, rfl⟩)) <;> (go_ret2; exact ⟨by rw [← HP.out]; rfl, bytes_below (Below.refl _ _) (Nat.le_refl _) 5 _⟩)
    · have hP := HP.out
      rw [drop_bytes_end S k hlt, puGo] at hP
      have HP := Aside0.mk hP
      clear hP
      cases b with
      | false =>
        go_wp2
        go_ret2
        exact ⟨by rw [← HP.out]; rfl, bytes_below (Below.refl _ _) (Nat.le_refl _) 5 _⟩
      | true =>
        cases hu : uOK s with
        | true =>
          have hum := fun w => HU.out true hu w
          go_wp2_with (go_at_call 120; (with_reducible refine (hum _).mono ?_); rintro e w' ⟨rfl, ⟨nd, rfl⟩⟩)
          go_ret2
          exact ⟨by rw [← HP.out]; simp [puVal, hu], pw_below_drewN (bytes_below (Below.refl _ _) (Nat.le_refl _) 5 _) _⟩
        | false =>
          have hum := fun w => HU.out false hu w
          go_wp2_with (go_at_call 120; (with_reducible refine (hum _).mono ?_); rintro e w' ⟨rfl, ⟨nd, rfl⟩⟩)
          go_ret2
          exact ⟨by rw [← HP.out]; simp [puVal, hu], pw_below_drewN (bytes_below (Below.refl _ _) (Nat.le_refl _) 5 _) _⟩

set_option maxRecDepth 100000 in
set_option maxHeartbeats 1000000 in
theorem pu8s (s : ByteArray) (hs : s.size ≤ 4096) (S : ByteArray) (hE : s.extract 1 s.size = S) (hSs : S.size ≤ 4096) (h0 : 0 < s.size) (h3 : s.size < 3) (hc : (bt s 0 == 48) = true) (w : World) :
    Calls Tryz.prog 76 #[.string s, .int .i64 0, .int .i64 64] w fun e w' => e = .returned (puVal s (puGo 8 2305843009213693952 (bytesOf S) 0 false)) ∧ Below w.heap.size w w' := by
  obtain ⟨R, hR⟩ : ∃ R, puGo 8 2305843009213693952 (bytesOf S) 0 false = R := ⟨_, rfl⟩
  rw [hR]
  have HR := Aside0.mk hR
  clear hR
  have HU := Aside0.mk (fun r hr w => uok_mono s hs (by omega) (by first | exact hm | (have := eq_of_beq hc; rw [this]; rfl)) (by first | exact hp | (have := eq_of_beq hc; rw [this]; rfl)) r hr w)
  have kb := fun W => print_bytes (P := Tryz.prog) 9 192 5 Tryz.underlying9 Tryz.underlying192 Tryz.underlying5 S W
  have hx : ∀ h : 0 < s.size, ((s[0]'h).toNat : Int) = bt s 0 := bt_at s 0
  have q0 := eq_true (show 0 < s.size by omega)
  have hne : (s.toList.isEmpty) = false := not_empty (by omega)
  go_enter Tryz.func76, Tryz.ntmps76
  go_wp2
  clear hE kb hx q0 hne hc
  rw [m64_eq]
  go_loop [12, 13, 101] (fun u n i => ∃ (k : Nat) (m : Int) (b : Bool), k ≤ S.size ∧ u = .bool b ∧ n = .int .u64 m ∧ i = .int .i64 k ∧ 0 ≤ m ∧ m < 18446744073709551616 ∧ Aside0 (puGo 8 2305843009213693952 ((bytesOf S).drop k) m b = R)) (fun _ _ i => S.size - (intOf i).toNat)
  case atStart => exact ⟨0, 0, false, by omega, rfl, rfl, rfl, by omega, by omega, HR⟩
  case round =>
    obtain ⟨k, m, b, hk, rfl, rfl, rfl, hm0, hm1, HP⟩ := hrel
    by_cases hlt : k < S.size
    · have hcell := bytes_cell w 5 S (by omega) k hlt
      have hP := HP.out
      rw [drop_bytes S k hlt, puGo] at hP
      have hb := bt_range S k
      obtain ⟨c, hc⟩ : ∃ c, bt S k = c := ⟨_, rfl⟩
      rw [hc] at hcell hP hb
      clear hc HP
      have hlr := lowI_range c (by omega) (by omega)
      by_cases c95 : c = 95
      · subst c95
        rw [if_pos rfl] at hP
        have HP := Aside0.mk hP
        clear hP
        go_wp2
        go_round
        case rel => exact ⟨k + 1, m, true, by omega, rfl, rfl, by go_num, hm0, hm1, HP⟩
        case measure => simp [intOf]; omega
      · rw [if_neg c95] at hP
        have c95b : (c == 95) = false := beq_eq_false_iff_ne.mpr c95
        by_cases h2 : 97 ≤ lowI c ∧ lowI c ≤ 122
        · obtain ⟨h3, h4⟩ := h2
          by_cases h1 : 48 ≤ c ∧ c ≤ 57
          · obtain ⟨h5, h6⟩ := h1
            exact absurd h3 (by have := lowI_dig c h5 h6; omega)
          · have hdig : dig36 c = lowI c - 97 + 10 := by unfold dig36; rw [if_neg h1, if_pos ⟨h3, h4⟩]
            rw [hdig] at hP
            clear hdig
            have h7 : c < 48 ∨ 57 < c := by omega
            clear h1
            by_cases hd : 8 ≤ lowI c - 97 + 10
            · rw [if_pos hd] at hP
              have HP := Aside0.mk hP
              clear hP
              rcases h7 with h7 | h7
              all_goals
                (go_wp2_with (go_at_call 119; (with_reducible refine (lower_any c _).mono ?_); rintro e w' ⟨rfl, rfl⟩)) <;> (go_ret2; exact ⟨by rw [← HP.out]; rfl, bytes_below (Below.refl _ _) (Nat.le_refl _) 5 _⟩)
            · rw [if_neg hd] at hP
              by_cases hn : 2305843009213693952 ≤ m
              · rw [if_pos hn] at hP
                have HP := Aside0.mk hP
                clear hP
                rcases h7 with h7 | h7
                all_goals
                  (go_wp2_with (go_at_call 119; (with_reducible refine (lower_any c _).mono ?_); rintro e w' ⟨rfl, rfl⟩)) <;> (go_ret2; exact ⟨by rw [← HP.out]; rfl, bytes_below (Below.refl _ _) (Nat.le_refl _) 5 _⟩)
              · rw [if_neg hn] at hP
                have hn' : m ≤ 2305843009213693951 := by omega
                by_cases ho : 18446744073709551616 ≤ m * 8 + (lowI c - 97 + 10)
                · rw [if_pos ho] at hP
                  have HP := Aside0.mk hP
                  clear hP
                  obtain ⟨q, hq⟩ : ∃ q, IntKind.u64.wrap (m * 8 + (lowI c - 97 + 10)) = q := ⟨_, rfl⟩
                  have hq1 : q < m * 8 := by rw [← hq, wrap_over _ ho (by omega)]; omega
                  clear ho
                  rcases h7 with h7 | h7
                  all_goals
                    (go_wp2_with (go_at_call 119; (with_reducible refine (lower_any c _).mono ?_); rintro e w' ⟨rfl, rfl⟩)) <;> (go_ret2; exact ⟨by rw [← HP.out]; rfl, bytes_below (Below.refl _ _) (Nat.le_refl _) 5 _⟩)
                · rw [if_neg ho] at hP
                  have HP := Aside0.mk hP
                  clear hP
                  have ho' : m * 8 + (lowI c - 97 + 10) ≤ M64 := by unfold M64; omega
                  have ho2 : m * 8 ≤ m * 8 + (lowI c - 97 + 10) := by omega
                  rcases h7 with h7 | h7
                  all_goals
                    (go_wp2_with (go_at_call 119; (with_reducible refine (lower_any c _).mono ?_); rintro e w' ⟨rfl, rfl⟩)) <;> (go_round; (case rel => exact ⟨k + 1, _, b, by omega, rfl, rfl, by go_num, by omega, by omega, HP⟩); (case measure => simp [intOf]; omega))
        · by_cases h1 : 48 ≤ c ∧ c ≤ 57
          · have hdig : dig36 c = c - 48 := by unfold dig36; rw [if_pos h1]
            obtain ⟨h5, h6⟩ := h1
            rw [hdig] at hP
            clear hdig
            by_cases hd : 8 ≤ c - 48
            · rw [if_pos hd] at hP
              have HP := Aside0.mk hP
              clear hP
              go_wp2
              go_ret2
              exact ⟨by rw [← HP.out]; rfl, bytes_below (Below.refl _ _) (Nat.le_refl _) 5 _⟩
            · rw [if_neg hd] at hP
              by_cases hn : 2305843009213693952 ≤ m
              · rw [if_pos hn] at hP
                have HP := Aside0.mk hP
                clear hP
                go_wp2
                go_ret2
                exact ⟨by rw [← HP.out]; rfl, bytes_below (Below.refl _ _) (Nat.le_refl _) 5 _⟩
              · rw [if_neg hn] at hP
                have hn' : m ≤ 2305843009213693951 := by omega
                by_cases ho : 18446744073709551616 ≤ m * 8 + (c - 48)
                · rw [if_pos ho] at hP
                  have HP := Aside0.mk hP
                  clear hP
                  obtain ⟨q, hq⟩ : ∃ q, IntKind.u64.wrap (m * 8 + (c - 48)) = q := ⟨_, rfl⟩
                  have hq1 : q < m * 8 := by rw [← hq, wrap_over _ ho (by omega)]; omega
                  clear ho
                  go_wp2
                  go_ret2
                  exact ⟨by rw [← HP.out]; rfl, bytes_below (Below.refl _ _) (Nat.le_refl _) 5 _⟩
                · rw [if_neg ho] at hP
                  have HP := Aside0.mk hP
                  clear hP
                  have ho' : m * 8 + (c - 48) ≤ M64 := by unfold M64; omega
                  have ho2 : m * 8 ≤ m * 8 + (c - 48) := by omega
                  go_wp2
                  go_round
                  case rel => exact ⟨k + 1, _, b, by omega, rfl, rfl, by go_num, by omega, by omega, HP⟩
                  case measure => simp [intOf]; omega
          · have hdig : dig36 c = 99 := by unfold dig36; rw [if_neg h1, if_neg h2]
            rw [hdig, if_pos (by omega)] at hP
            have HP := Aside0.mk hP
            clear hP hdig
            have h7 : c < 48 ∨ 57 < c := by omega
            have h8 : lowI c < 97 ∨ 122 < lowI c := by omega
            clear h1 h2
            rcases h7 with h7 | h7 <;> rcases h8 with h8 | h8
            all_goals
              (go_wp2_with (go_at_call 119; (with_reducible refine (lower_any c _).mono ?_); rintro e w' ⟨rfl, rfl⟩)) <;> (go_ret2; exact ⟨by rw [← HP.out]; rfl, bytes_below (Below.refl _ _) (Nat.le_refl _) 5 _⟩)
    · have hP := HP.out
      rw [drop_bytes_end S k hlt, puGo] at hP
      have HP := Aside0.mk hP
      clear hP
      cases b with
      | false =>
        go_wp2
        go_ret2
        exact ⟨by rw [← HP.out]; rfl, bytes_below (Below.refl _ _) (Nat.le_refl _) 5 _⟩
      | true =>
        cases hu : uOK s with
        | true =>
          have hum := fun w => HU.out true hu w
          go_wp2_with (go_at_call 120; (with_reducible refine (hum _).mono ?_); rintro e w' ⟨rfl, ⟨nd, rfl⟩⟩)
          go_ret2
          exact ⟨by rw [← HP.out]; simp [puVal, hu], pw_below_drewN (bytes_below (Below.refl _ _) (Nat.le_refl _) 5 _) _⟩
        | false =>
          have hum := fun w => HU.out false hu w
          go_wp2_with (go_at_call 120; (with_reducible refine (hum _).mono ?_); rintro e w' ⟨rfl, ⟨nd, rfl⟩⟩)
          go_ret2
          exact ⟨by rw [← HP.out]; simp [puVal, hu], pw_below_drewN (bytes_below (Below.refl _ _) (Nat.le_refl _) 5 _) _⟩

set_option maxRecDepth 100000 in
set_option maxHeartbeats 1000000 in
theorem pu8l (s : ByteArray) (hs : s.size ≤ 4096) (S : ByteArray) (hE : s.extract 1 s.size = S) (hSs : S.size ≤ 4096) (h0 : 3 ≤ s.size) (hc : (bt s 0 == 48) = true) (hl98 : (lowI (bt s 1) == 98) = false) (hl111 : (lowI (bt s 1) == 111) = false) (hl120 : (lowI (bt s 1) == 120) = false) (w : World) :
    Calls Tryz.prog 76 #[.string s, .int .i64 0, .int .i64 64] w fun e w' => e = .returned (puVal s (puGo 8 2305843009213693952 (bytesOf S) 0 false)) ∧ Below w.heap.size w w' := by
  obtain ⟨R, hR⟩ : ∃ R, puGo 8 2305843009213693952 (bytesOf S) 0 false = R := ⟨_, rfl⟩
  rw [hR]
  have HR := Aside0.mk hR
  clear hR
  have HU := Aside0.mk (fun r hr w => uok_mono s hs (by omega) (by first | exact hm | (have := eq_of_beq hc; rw [this]; rfl)) (by first | exact hp | (have := eq_of_beq hc; rw [this]; rfl)) r hr w)
  have kb := fun W => print_bytes (P := Tryz.prog) 9 192 5 Tryz.underlying9 Tryz.underlying192 Tryz.underlying5 S W
  have hx : ∀ h : 0 < s.size, ((s[0]'h).toNat : Int) = bt s 0 := bt_at s 0
  have q0 := eq_true (show 0 < s.size by omega)
  have hne : (s.toList.isEmpty) = false := not_empty (by omega)
  have hx1 : ∀ h : 1 < s.size, ((s[1]'h).toNat : Int) = bt s 1 := bt_at s 1
  have q1 := eq_true (show 1 < s.size by omega)
  go_enter Tryz.func76, Tryz.ntmps76
  go_wp2_with (go_at_call 119; (with_reducible refine (lower_any (bt s 1) _).mono ?_); rintro e w' ⟨rfl, rfl⟩)
  clear hE kb hx q0 hne hc hx1 q1 hl98 hl111 hl120
  rw [m64_eq]
  go_loop [12, 13, 101] (fun u n i => ∃ (k : Nat) (m : Int) (b : Bool), k ≤ S.size ∧ u = .bool b ∧ n = .int .u64 m ∧ i = .int .i64 k ∧ 0 ≤ m ∧ m < 18446744073709551616 ∧ Aside0 (puGo 8 2305843009213693952 ((bytesOf S).drop k) m b = R)) (fun _ _ i => S.size - (intOf i).toNat)
  case atStart => exact ⟨0, 0, false, by omega, rfl, rfl, rfl, by omega, by omega, HR⟩
  case round =>
    obtain ⟨k, m, b, hk, rfl, rfl, rfl, hm0, hm1, HP⟩ := hrel
    by_cases hlt : k < S.size
    · have hcell := bytes_cell w 5 S (by omega) k hlt
      have hP := HP.out
      rw [drop_bytes S k hlt, puGo] at hP
      have hb := bt_range S k
      obtain ⟨c, hc⟩ : ∃ c, bt S k = c := ⟨_, rfl⟩
      rw [hc] at hcell hP hb
      clear hc HP
      have hlr := lowI_range c (by omega) (by omega)
      by_cases c95 : c = 95
      · subst c95
        rw [if_pos rfl] at hP
        have HP := Aside0.mk hP
        clear hP
        go_wp2
        go_round
        case rel => exact ⟨k + 1, m, true, by omega, rfl, rfl, by go_num, hm0, hm1, HP⟩
        case measure => simp [intOf]; omega
      · rw [if_neg c95] at hP
        have c95b : (c == 95) = false := beq_eq_false_iff_ne.mpr c95
        by_cases h2 : 97 ≤ lowI c ∧ lowI c ≤ 122
        · obtain ⟨h3, h4⟩ := h2
          by_cases h1 : 48 ≤ c ∧ c ≤ 57
          · obtain ⟨h5, h6⟩ := h1
            exact absurd h3 (by have := lowI_dig c h5 h6; omega)
          · have hdig : dig36 c = lowI c - 97 + 10 := by unfold dig36; rw [if_neg h1, if_pos ⟨h3, h4⟩]
            rw [hdig] at hP
            clear hdig
            have h7 : c < 48 ∨ 57 < c := by omega
            clear h1
            by_cases hd : 8 ≤ lowI c - 97 + 10
            · rw [if_pos hd] at hP
              have HP := Aside0.mk hP
              clear hP
              rcases h7 with h7 | h7
              all_goals
                (go_wp2_with (go_at_call 119; (with_reducible refine (lower_any c _).mono ?_); rintro e w' ⟨rfl, rfl⟩)) <;> (go_ret2; exact ⟨by rw [← HP.out]; rfl, bytes_below (Below.refl _ _) (Nat.le_refl _) 5 _⟩)
            · rw [if_neg hd] at hP
              by_cases hn : 2305843009213693952 ≤ m
              · rw [if_pos hn] at hP
                have HP := Aside0.mk hP
                clear hP
                rcases h7 with h7 | h7
                all_goals
                  (go_wp2_with (go_at_call 119; (with_reducible refine (lower_any c _).mono ?_); rintro e w' ⟨rfl, rfl⟩)) <;> (go_ret2; exact ⟨by rw [← HP.out]; rfl, bytes_below (Below.refl _ _) (Nat.le_refl _) 5 _⟩)
              · rw [if_neg hn] at hP
                have hn' : m ≤ 2305843009213693951 := by omega
                by_cases ho : 18446744073709551616 ≤ m * 8 + (lowI c - 97 + 10)
                · rw [if_pos ho] at hP
                  have HP := Aside0.mk hP
                  clear hP
                  obtain ⟨q, hq⟩ : ∃ q, IntKind.u64.wrap (m * 8 + (lowI c - 97 + 10)) = q := ⟨_, rfl⟩
                  have hq1 : q < m * 8 := by rw [← hq, wrap_over _ ho (by omega)]; omega
                  clear ho
                  rcases h7 with h7 | h7
                  all_goals
                    (go_wp2_with (go_at_call 119; (with_reducible refine (lower_any c _).mono ?_); rintro e w' ⟨rfl, rfl⟩)) <;> (go_ret2; exact ⟨by rw [← HP.out]; rfl, bytes_below (Below.refl _ _) (Nat.le_refl _) 5 _⟩)
                · rw [if_neg ho] at hP
                  have HP := Aside0.mk hP
                  clear hP
                  have ho' : m * 8 + (lowI c - 97 + 10) ≤ M64 := by unfold M64; omega
                  have ho2 : m * 8 ≤ m * 8 + (lowI c - 97 + 10) := by omega
                  rcases h7 with h7 | h7
                  all_goals
                    (go_wp2_with (go_at_call 119; (with_reducible refine (lower_any c _).mono ?_); rintro e w' ⟨rfl, rfl⟩)) <;> (go_round; (case rel => exact ⟨k + 1, _, b, by omega, rfl, rfl, by go_num, by omega, by omega, HP⟩); (case measure => simp [intOf]; omega))
        · by_cases h1 : 48 ≤ c ∧ c ≤ 57
          · have hdig : dig36 c = c - 48 := by unfold dig36; rw [if_pos h1]
            obtain ⟨h5, h6⟩ := h1
            rw [hdig] at hP
            clear hdig
            by_cases hd : 8 ≤ c - 48
            · rw [if_pos hd] at hP
              have HP := Aside0.mk hP
              clear hP
              go_wp2
              go_ret2
              exact ⟨by rw [← HP.out]; rfl, bytes_below (Below.refl _ _) (Nat.le_refl _) 5 _⟩
            · rw [if_neg hd] at hP
              by_cases hn : 2305843009213693952 ≤ m
              · rw [if_pos hn] at hP
                have HP := Aside0.mk hP
                clear hP
                go_wp2
                go_ret2
                exact ⟨by rw [← HP.out]; rfl, bytes_below (Below.refl _ _) (Nat.le_refl _) 5 _⟩
              · rw [if_neg hn] at hP
                have hn' : m ≤ 2305843009213693951 := by omega
                by_cases ho : 18446744073709551616 ≤ m * 8 + (c - 48)
                · rw [if_pos ho] at hP
                  have HP := Aside0.mk hP
                  clear hP
                  obtain ⟨q, hq⟩ : ∃ q, IntKind.u64.wrap (m * 8 + (c - 48)) = q := ⟨_, rfl⟩
                  have hq1 : q < m * 8 := by rw [← hq, wrap_over _ ho (by omega)]; omega
                  clear ho
                  go_wp2
                  go_ret2
                  exact ⟨by rw [← HP.out]; rfl, bytes_below (Below.refl _ _) (Nat.le_refl _) 5 _⟩
                · rw [if_neg ho] at hP
                  have HP := Aside0.mk hP
                  clear hP
                  have ho' : m * 8 + (c - 48) ≤ M64 := by unfold M64; omega
                  have ho2 : m * 8 ≤ m * 8 + (c - 48) := by omega
                  go_wp2
                  go_round
                  case rel => exact ⟨k + 1, _, b, by omega, rfl, rfl, by go_num, by omega, by omega, HP⟩
                  case measure => simp [intOf]; omega
          · have hdig : dig36 c = 99 := by unfold dig36; rw [if_neg h1, if_neg h2]
            rw [hdig, if_pos (by omega)] at hP
            have HP := Aside0.mk hP
            clear hP hdig
            have h7 : c < 48 ∨ 57 < c := by omega
            have h8 : lowI c < 97 ∨ 122 < lowI c := by omega
            clear h1 h2
            rcases h7 with h7 | h7 <;> rcases h8 with h8 | h8
            all_goals
              (go_wp2_with (go_at_call 119; (with_reducible refine (lower_any c _).mono ?_); rintro e w' ⟨rfl, rfl⟩)) <;> (go_ret2; exact ⟨by rw [← HP.out]; rfl, bytes_below (Below.refl _ _) (Nat.le_refl _) 5 _⟩)
    · have hP := HP.out
      rw [drop_bytes_end S k hlt, puGo] at hP
      have HP := Aside0.mk hP
      clear hP
      cases b with
      | false =>
        go_wp2
        go_ret2
        exact ⟨by rw [← HP.out]; rfl, bytes_below (Below.refl _ _) (Nat.le_refl _) 5 _⟩
      | true =>
        cases hu : uOK s with
        | true =>
          have hum := fun w => HU.out true hu w
          go_wp2_with (go_at_call 120; (with_reducible refine (hum _).mono ?_); rintro e w' ⟨rfl, ⟨nd, rfl⟩⟩)
          go_ret2
          exact ⟨by rw [← HP.out]; simp [puVal, hu], pw_below_drewN (bytes_below (Below.refl _ _) (Nat.le_refl _) 5 _) _⟩
        | false =>
          have hum := fun w => HU.out false hu w
          go_wp2_with (go_at_call 120; (with_reducible refine (hum _).mono ?_); rintro e w' ⟨rfl, ⟨nd, rfl⟩⟩)
          go_ret2
          exact ⟨by rw [← HP.out]; simp [puVal, hu], pw_below_drewN (bytes_below (Below.refl _ _) (Nat.le_refl _) 5 _) _⟩
end Go.Proofs.YtnanfmjbdmfmkaaGreatDoor

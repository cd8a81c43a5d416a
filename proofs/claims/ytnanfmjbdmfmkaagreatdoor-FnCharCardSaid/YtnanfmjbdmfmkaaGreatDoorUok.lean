/- internal/strconv.underscoreOK: where underscores may stand in a literal. -/
import Derived.Test.YtnanfmjbdmfmkaaGreatDoorB
namespace Go.Proofs.YtnanfmjbdmfmkaaGreatDoor
open Go Go.RowKit Go.Proofs.YtnanfmjbdmfmkaaGreatDoorW.PrintWords
set_option linter.unusedVariables false
set_option linter.unusedSimpArgs false

def uStep (hex : Bool) (saw c : Int) : Option Int := if 48 ≤ c ∧ c ≤ 57 then some 48 else if hex = true ∧ 97 ≤ lowI c ∧ lowI c ≤ 102 then some 48 else if c = 95 then (if saw = 48 then some 95 else none) else if saw = 95 then none else some 33
def uGo (hex : Bool) : Int → List Int → Bool
  | saw, [] => saw != 95
  | saw, c :: t => match uStep hex saw c with | none => false | some k => uGo hex k t
def uOK (s : ByteArray) : Bool := if 2 ≤ s.size ∧ (bt s 0 == 48) = true ∧ ((lowI (bt s 1) == 98) = true ∨ (lowI (bt s 1) == 111) = true ∨ (lowI (bt s 1) == 120) = true) then uGo (lowI (bt s 1) == 120) 48 ((bytesOf s).drop 2) else uGo false 94 (bytesOf s)
theorem uGo_cons (hex : Bool) (saw c : Int) (t : List Int) : uGo hex saw (c :: t) = match uStep hex saw c with | none => false | some k => uGo hex k t := rfl

set_option maxRecDepth 100000 in
set_option maxHeartbeats 2000000 in
theorem uk1 (s : ByteArray) (hs : s.size ≤ 4096) (h0 : 0 < s.size) (hm : (bt s 0 == 45) = false) (hp : (bt s 0 == 43) = false) (h2 : s.size = 1) (w : World) :
    Calls Tryz.prog 120 #[.string s] w fun e w' => e = .returned (.bool (uGo false 94 (bytesOf s))) ∧ w = w' := by
  obtain ⟨R, hR⟩ : ∃ R, uGo false 94 (bytesOf s) = R := ⟨_, rfl⟩
  rw [hR]
  have HR := Aside0.mk hR
  clear hR
  have hx : ∀ h : 0 < s.size, ((s[0]'h).toNat : Int) = bt s 0 := bt_at s 0
  have q0 := eq_true (show 0 < s.size by omega)
  have h3 : ¬ 2 ≤ s.size := by omega
  have h3b : s.size < 2 := by omega
  clear h2
  go_enter Tryz.func120, Tryz.ntmps120
  go_wp2_with (go_at_call 119; (with_reducible refine (lower_any (bt s 1) _).mono ?_); rintro e w' ⟨rfl, rfl⟩)
  clear hx q0  hm hp 
  go_loop [3, 4] (fun u i => ∃ (k : Nat) (x : Int), k ≤ s.size ∧ u = .int .i32 x ∧ i = .int .i64 k ∧ Aside0 (uGo false x ((bytesOf s).drop k) = R)) (fun _ i => s.size - (intOf i).toNat)
  case atStart => exact ⟨0, 94, by omega, rfl, rfl, HR⟩
  case round =>
    obtain ⟨k, x, hk, rfl, rfl, HP⟩ := hrel
    by_cases hlt : k < s.size
    · have hP := HP.out
      rw [drop_bytes s k hlt, uGo_cons] at hP
      have hb := bt_range s k
      have hxk : ∀ h : k < s.size, ((s[k]'h).toNat : Int) = bt s k := bt_at s k
      have qk := eq_true hlt
      clear HP
      obtain ⟨c, hc⟩ : ∃ c, bt s k = c := ⟨_, rfl⟩
      rw [hc] at hxk hP hb
      clear hc
      by_cases hd : 48 ≤ c ∧ c ≤ 57
      · rw [show uStep false x c = some 48 by unfold uStep; rw [if_pos hd]] at hP
        obtain ⟨d1, d2⟩ := hd
        have HP := Aside0.mk hP
        clear hP
        go_wp2
        go_round
        case rel => exact ⟨k + 1, 48, by omega, rfl, by go_num, HP⟩
        case measure => simp [intOf]; omega
      · have d0 : c < 48 ∨ 57 < c := by omega
        have hq2 : ¬ (false = true ∧ 97 ≤ lowI c ∧ lowI c ≤ 102) := fun h => absurd h.1 (by simp)
        by_cases c95 : c = 95
        · subst c95
          by_cases x48 : x = 48
          · rw [show uStep false x 95 = some 95 by unfold uStep; rw [if_neg hd, if_neg hq2, if_pos rfl, if_pos x48]] at hP
            have x48c : (x != 48) = false := by rw [x48]; rfl
            have x48b : (x == 48) = true := by rw [x48]; rfl
            have HP := Aside0.mk hP
            clear hP hd hq2 x48 
            clear d0
            skip
            all_goals
              go_wp2
              go_round
              case rel => exact ⟨k + 1, 95, by omega, rfl, by go_num, HP⟩
              case measure => simp [intOf]; omega
          · rw [show uStep false x 95 = none by unfold uStep; rw [if_neg hd, if_neg hq2, if_pos rfl, if_neg x48]] at hP
            have x48b : (x == 48) = false := beq_eq_false_iff_ne.mpr x48
            have x48c : (x != 48) = true := by simp [bne, x48b]
            have HP := Aside0.mk hP
            clear hP hd hq2 x48 
            clear d0
            skip
            all_goals
              go_wp2
              go_ret
              exact ⟨congrArg (fun r => Ending.returned (.bool r)) HP.out, rfl⟩
        · have c95b : (c == 95) = false := beq_eq_false_iff_ne.mpr c95
          by_cases x95 : x = 95
          · rw [show uStep false x c = none by unfold uStep; rw [if_neg hd, if_neg hq2, if_neg c95, if_pos x95]] at hP
            subst x95
            have HP := Aside0.mk hP
            clear hP hd hq2 c95 
            rcases d0 with d0 | d0
            all_goals
              go_wp2
              go_ret
              exact ⟨congrArg (fun r => Ending.returned (.bool r)) HP.out, rfl⟩
          · rw [show uStep false x c = some 33 by unfold uStep; rw [if_neg hd, if_neg hq2, if_neg c95, if_neg x95]] at hP
            have x95b : (x == 95) = false := beq_eq_false_iff_ne.mpr x95
            have HP := Aside0.mk hP
            clear hP hd hq2 x95 c95 
            rcases d0 with d0 | d0
            all_goals
              go_wp2
              go_round
              case rel => exact ⟨k + 1, 33, by omega, rfl, by go_num, HP⟩
              case measure => simp [intOf]; omega
    · have hP := HP.out
      rw [drop_bytes_end s k hlt] at hP
      have hP2 : (x != 95) = R := hP
      have hk2 : s.size ≤ k := by omega
      have HP2 := Aside0.mk hP2
      clear hP hP2 HP
      go_wp2
      go_ret
      exact ⟨congrArg (fun r => Ending.returned (.bool r)) HP2.out, rfl⟩

set_option maxRecDepth 100000 in
set_option maxHeartbeats 2000000 in
theorem uk2 (s : ByteArray) (hs : s.size ≤ 4096) (h0 : 0 < s.size) (hm : (bt s 0 == 45) = false) (hp : (bt s 0 == 43) = false) (h2 : 2 ≤ s.size) (hc : (bt s 0 == 48) = false) (w : World) :
    Calls Tryz.prog 120 #[.string s] w fun e w' => e = .returned (.bool (uGo false 94 (bytesOf s))) ∧ w = w' := by
  obtain ⟨R, hR⟩ : ∃ R, uGo false 94 (bytesOf s) = R := ⟨_, rfl⟩
  rw [hR]
  have HR := Aside0.mk hR
  clear hR
  have hx : ∀ h : 0 < s.size, ((s[0]'h).toNat : Int) = bt s 0 := bt_at s 0
  have q0 := eq_true (show 0 < s.size by omega)
  have hx1 : ∀ h : 1 < s.size, ((s[1]'h).toNat : Int) = bt s 1 := bt_at s 1
  have q1 := eq_true (show 1 < s.size by omega)
  go_enter Tryz.func120, Tryz.ntmps120
  go_wp2_with (go_at_call 119; (with_reducible refine (lower_any (bt s 1) _).mono ?_); rintro e w' ⟨rfl, rfl⟩)
  clear hx q0 hx1 q1 hm hp hc
  go_loop [3, 4] (fun u i => ∃ (k : Nat) (x : Int), k ≤ s.size ∧ u = .int .i32 x ∧ i = .int .i64 k ∧ Aside0 (uGo false x ((bytesOf s).drop k) = R)) (fun _ i => s.size - (intOf i).toNat)
  case atStart => exact ⟨0, 94, by omega, rfl, rfl, HR⟩
  case round =>
    obtain ⟨k, x, hk, rfl, rfl, HP⟩ := hrel
    by_cases hlt : k < s.size
    · have hP := HP.out
      rw [drop_bytes s k hlt, uGo_cons] at hP
      have hb := bt_range s k
      have hxk : ∀ h : k < s.size, ((s[k]'h).toNat : Int) = bt s k := bt_at s k
      have qk := eq_true hlt
      clear HP
      obtain ⟨c, hc⟩ : ∃ c, bt s k = c := ⟨_, rfl⟩
      rw [hc] at hxk hP hb
      clear hc
      by_cases hd : 48 ≤ c ∧ c ≤ 57
      · rw [show uStep false x c = some 48 by unfold uStep; rw [if_pos hd]] at hP
        obtain ⟨d1, d2⟩ := hd
        have HP := Aside0.mk hP
        clear hP
        go_wp2
        go_round
        case rel => exact ⟨k + 1, 48, by omega, rfl, by go_num, HP⟩
        case measure => simp [intOf]; omega
      · have d0 : c < 48 ∨ 57 < c := by omega
        have hq2 : ¬ (false = true ∧ 97 ≤ lowI c ∧ lowI c ≤ 102) := fun h => absurd h.1 (by simp)
        by_cases c95 : c = 95
        · subst c95
          by_cases x48 : x = 48
          · rw [show uStep false x 95 = some 95 by unfold uStep; rw [if_neg hd, if_neg hq2, if_pos rfl, if_pos x48]] at hP
            have x48c : (x != 48) = false := by rw [x48]; rfl
            have x48b : (x == 48) = true := by rw [x48]; rfl
            have HP := Aside0.mk hP
            clear hP hd hq2 x48 
            clear d0
            skip
            all_goals
              go_wp2
              go_round
              case rel => exact ⟨k + 1, 95, by omega, rfl, by go_num, HP⟩
              case measure => simp [intOf]; omega
          · rw [show uStep false x 95 = none by unfold uStep; rw [if_neg hd, if_neg hq2, if_pos rfl, if_neg x48]] at hP
            have x48b : (x == 48) = false := beq_eq_false_iff_ne.mpr x48
            have x48c : (x != 48) = true := by simp [bne, x48b]
            have HP := Aside0.mk hP
            clear hP hd hq2 x48 
            clear d0
            skip
            all_goals
              go_wp2
              go_ret
              exact ⟨congrArg (fun r => Ending.returned (.bool r)) HP.out, rfl⟩
        · have c95b : (c == 95) = false := beq_eq_false_iff_ne.mpr c95
          by_cases x95 : x = 95
          · rw [show uStep false x c = none by unfold uStep; rw [if_neg hd, if_neg hq2, if_neg c95, if_pos x95]] at hP
            subst x95
            have HP := Aside0.mk hP
            clear hP hd hq2 c95 
            rcases d0 with d0 | d0
            all_goals
              go_wp2
              go_ret
              exact ⟨congrArg (fun r => Ending.returned (.bool r)) HP.out, rfl⟩
          · rw [show uStep false x c = some 33 by unfold uStep; rw [if_neg hd, if_neg hq2, if_neg c95, if_neg x95]] at hP
            have x95b : (x == 95) = false := beq_eq_false_iff_ne.mpr x95
            have HP := Aside0.mk hP
            clear hP hd hq2 x95 c95 
            rcases d0 with d0 | d0
            all_goals
              go_wp2
              go_round
              case rel => exact ⟨k + 1, 33, by omega, rfl, by go_num, HP⟩
              case measure => simp [intOf]; omega
    · have hP := HP.out
      rw [drop_bytes_end s k hlt] at hP
      have hP2 : (x != 95) = R := hP
      have hk2 : s.size ≤ k := by omega
      have HP2 := Aside0.mk hP2
      clear hP hP2 HP
      go_wp2
      go_ret
      exact ⟨congrArg (fun r => Ending.returned (.bool r)) HP2.out, rfl⟩

set_option maxRecDepth 100000 in
set_option maxHeartbeats 2000000 in
theorem uk3 (s : ByteArray) (hs : s.size ≤ 4096) (h0 : 0 < s.size) (hm : (bt s 0 == 45) = false) (hp : (bt s 0 == 43) = false) (h2 : 2 ≤ s.size) (hc : (bt s 0 == 48) = true) (hl : (lowI (bt s 1) == 98) = true) (w : World) :
    Calls Tryz.prog 120 #[.string s] w fun e w' => e = .returned (.bool (uGo false 48 ((bytesOf s).drop 2))) ∧ w = w' := by
  obtain ⟨R, hR⟩ : ∃ R, uGo false 48 ((bytesOf s).drop 2) = R := ⟨_, rfl⟩
  rw [hR]
  have HR := Aside0.mk hR
  clear hR
  have hx : ∀ h : 0 < s.size, ((s[0]'h).toNat : Int) = bt s 0 := bt_at s 0
  have q0 := eq_true (show 0 < s.size by omega)
  have hx1 : ∀ h : 1 < s.size, ((s[1]'h).toNat : Int) = bt s 1 := bt_at s 1
  have q1 := eq_true (show 1 < s.size by omega)
  have hlx : (lowI (bt s 1) == 120) = false := by have := eq_of_beq hl; rw [this]; rfl
  go_enter Tryz.func120, Tryz.ntmps120
  go_wp2_with (go_at_call 119; (with_reducible refine (lower_any (bt s 1) _).mono ?_); rintro e w' ⟨rfl, rfl⟩)
  clear hx q0 hx1 q1 hm hp hc hl hlx
  go_loop [3, 4] (fun u i => ∃ (k : Nat) (x : Int), k ≤ s.size ∧ u = .int .i32 x ∧ i = .int .i64 k ∧ Aside0 (uGo false x ((bytesOf s).drop k) = R)) (fun _ i => s.size - (intOf i).toNat)
  case atStart => exact ⟨2, 48, by omega, rfl, rfl, HR⟩
  case round =>
    obtain ⟨k, x, hk, rfl, rfl, HP⟩ := hrel
    by_cases hlt : k < s.size
    · have hP := HP.out
      rw [drop_bytes s k hlt, uGo_cons] at hP
      have hb := bt_range s k
      have hxk : ∀ h : k < s.size, ((s[k]'h).toNat : Int) = bt s k := bt_at s k
      have qk := eq_true hlt
      clear HP
      obtain ⟨c, hc⟩ : ∃ c, bt s k = c := ⟨_, rfl⟩
      rw [hc] at hxk hP hb
      clear hc
      by_cases hd : 48 ≤ c ∧ c ≤ 57
      · rw [show uStep false x c = some 48 by unfold uStep; rw [if_pos hd]] at hP
        obtain ⟨d1, d2⟩ := hd
        have HP := Aside0.mk hP
        clear hP
        go_wp2
        go_round
        case rel => exact ⟨k + 1, 48, by omega, rfl, by go_num, HP⟩
        case measure => simp [intOf]; omega
      · have d0 : c < 48 ∨ 57 < c := by omega
        have hq2 : ¬ (false = true ∧ 97 ≤ lowI c ∧ lowI c ≤ 102) := fun h => absurd h.1 (by simp)
        by_cases c95 : c = 95
        · subst c95
          by_cases x48 : x = 48
          · rw [show uStep false x 95 = some 95 by unfold uStep; rw [if_neg hd, if_neg hq2, if_pos rfl, if_pos x48]] at hP
            have x48c : (x != 48) = false := by rw [x48]; rfl
            have x48b : (x == 48) = true := by rw [x48]; rfl
            have HP := Aside0.mk hP
            clear hP hd hq2 x48 
            clear d0
            skip
            all_goals
              go_wp2
              go_round
              case rel => exact ⟨k + 1, 95, by omega, rfl, by go_num, HP⟩
              case measure => simp [intOf]; omega
          · rw [show uStep false x 95 = none by unfold uStep; rw [if_neg hd, if_neg hq2, if_pos rfl, if_neg x48]] at hP
            have x48b : (x == 48) = false := beq_eq_false_iff_ne.mpr x48
            have x48c : (x != 48) = true := by simp [bne, x48b]
            have HP := Aside0.mk hP
            clear hP hd hq2 x48 
            clear d0
            skip
            all_goals
              go_wp2
              go_ret
              exact ⟨congrArg (fun r => Ending.returned (.bool r)) HP.out, rfl⟩
        · have c95b : (c == 95) = false := beq_eq_false_iff_ne.mpr c95
          by_cases x95 : x = 95
          · rw [show uStep false x c = none by unfold uStep; rw [if_neg hd, if_neg hq2, if_neg c95, if_pos x95]] at hP
            subst x95
            have HP := Aside0.mk hP
            clear hP hd hq2 c95 
            rcases d0 with d0 | d0
            all_goals
              go_wp2
              go_ret
              exact ⟨congrArg (fun r => Ending.returned (.bool r)) HP.out, rfl⟩
          · rw [show uStep false x c = some 33 by unfold uStep; rw [if_neg hd, if_neg hq2, if_neg c95, if_neg x95]] at hP
            have x95b : (x == 95) = false := beq_eq_false_iff_ne.mpr x95
            have HP := Aside0.mk hP
            clear hP hd hq2 x95 c95 
            rcases d0 with d0 | d0
            all_goals
              go_wp2
              go_round
              case rel => exact ⟨k + 1, 33, by omega, rfl, by go_num, HP⟩
              case measure => simp [intOf]; omega
    · have hP := HP.out
      rw [drop_bytes_end s k hlt] at hP
      have hP2 : (x != 95) = R := hP
      have hk2 : s.size ≤ k := by omega
      have HP2 := Aside0.mk hP2
      clear hP hP2 HP
      go_wp2
      go_ret
      exact ⟨congrArg (fun r => Ending.returned (.bool r)) HP2.out, rfl⟩

set_option maxRecDepth 100000 in
set_option maxHeartbeats 2000000 in
theorem uk4 (s : ByteArray) (hs : s.size ≤ 4096) (h0 : 0 < s.size) (hm : (bt s 0 == 45) = false) (hp : (bt s 0 == 43) = false) (h2 : 2 ≤ s.size) (hc : (bt s 0 == 48) = true) (hlb : (lowI (bt s 1) == 98) = false) (hl : (lowI (bt s 1) == 111) = true) (w : World) :
    Calls Tryz.prog 120 #[.string s] w fun e w' => e = .returned (.bool (uGo false 48 ((bytesOf s).drop 2))) ∧ w = w' := by
  obtain ⟨R, hR⟩ : ∃ R, uGo false 48 ((bytesOf s).drop 2) = R := ⟨_, rfl⟩
  rw [hR]
  have HR := Aside0.mk hR
  clear hR
  have hx : ∀ h : 0 < s.size, ((s[0]'h).toNat : Int) = bt s 0 := bt_at s 0
  have q0 := eq_true (show 0 < s.size by omega)
  have hx1 : ∀ h : 1 < s.size, ((s[1]'h).toNat : Int) = bt s 1 := bt_at s 1
  have q1 := eq_true (show 1 < s.size by omega)
  have hlx : (lowI (bt s 1) == 120) = false := by have := eq_of_beq hl; rw [this]; rfl
  go_enter Tryz.func120, Tryz.ntmps120
  go_wp2_with (go_at_call 119; (with_reducible refine (lower_any (bt s 1) _).mono ?_); rintro e w' ⟨rfl, rfl⟩)
  clear hx q0 hx1 q1 hm hp hc hlb hl hlx
  go_loop [3, 4] (fun u i => ∃ (k : Nat) (x : Int), k ≤ s.size ∧ u = .int .i32 x ∧ i = .int .i64 k ∧ Aside0 (uGo false x ((bytesOf s).drop k) = R)) (fun _ i => s.size - (intOf i).toNat)
  case atStart => exact ⟨2, 48, by omega, rfl, rfl, HR⟩
  case round =>
    obtain ⟨k, x, hk, rfl, rfl, HP⟩ := hrel
    by_cases hlt : k < s.size
    · have hP := HP.out
      rw [drop_bytes s k hlt, uGo_cons] at hP
      have hb := bt_range s k
      have hxk : ∀ h : k < s.size, ((s[k]'h).toNat : Int) = bt s k := bt_at s k
      have qk := eq_true hlt
      clear HP
      obtain ⟨c, hc⟩ : ∃ c, bt s k = c := ⟨_, rfl⟩
      rw [hc] at hxk hP hb
      clear hc
      by_cases hd : 48 ≤ c ∧ c ≤ 57
      · rw [show uStep false x c = some 48 by unfold uStep; rw [if_pos hd]] at hP
        obtain ⟨d1, d2⟩ := hd
        have HP := Aside0.mk hP
        clear hP
        go_wp2
        go_round
        case rel => exact ⟨k + 1, 48, by omega, rfl, by go_num, HP⟩
        case measure => simp [intOf]; omega
      · have d0 : c < 48 ∨ 57 < c := by omega
        have hq2 : ¬ (false = true ∧ 97 ≤ lowI c ∧ lowI c ≤ 102) := fun h => absurd h.1 (by simp)
        by_cases c95 : c = 95
        · subst c95
          by_cases x48 : x = 48
          · rw [show uStep false x 95 = some 95 by unfold uStep; rw [if_neg hd, if_neg hq2, if_pos rfl, if_pos x48]] at hP
            have x48c : (x != 48) = false := by rw [x48]; rfl
            have x48b : (x == 48) = true := by rw [x48]; rfl
            have HP := Aside0.mk hP
            clear hP hd hq2 x48 
            clear d0
            skip
            all_goals
              go_wp2
              go_round
              case rel => exact ⟨k + 1, 95, by omega, rfl, by go_num, HP⟩
              case measure => simp [intOf]; omega
          · rw [show uStep false x 95 = none by unfold uStep; rw [if_neg hd, if_neg hq2, if_pos rfl, if_neg x48]] at hP
            have x48b : (x == 48) = false := beq_eq_false_iff_ne.mpr x48
            have x48c : (x != 48) = true := by simp [bne, x48b]
            have HP := Aside0.mk hP
            clear hP hd hq2 x48 
            clear d0
            skip
            all_goals
              go_wp2
              go_ret
              exact ⟨congrArg (fun r => Ending.returned (.bool r)) HP.out, rfl⟩
        · have c95b : (c == 95) = false := beq_eq_false_iff_ne.mpr c95
          by_cases x95 : x = 95
          · rw [show uStep false x c = none by unfold uStep; rw [if_neg hd, if_neg hq2, if_neg c95, if_pos x95]] at hP
            subst x95
            have HP := Aside0.mk hP
            clear hP hd hq2 c95 
            rcases d0 with d0 | d0
            all_goals
              go_wp2
              go_ret
              exact ⟨congrArg (fun r => Ending.returned (.bool r)) HP.out, rfl⟩
          · rw [show uStep false x c = some 33 by unfold uStep; rw [if_neg hd, if_neg hq2, if_neg c95, if_neg x95]] at hP
            have x95b : (x == 95) = false := beq_eq_false_iff_ne.mpr x95
            have HP := Aside0.mk hP
            clear hP hd hq2 x95 c95 
            rcases d0 with d0 | d0
            all_goals
              go_wp2
              go_round
              case rel => exact ⟨k + 1, 33, by omega, rfl, by go_num, HP⟩
              case measure => simp [intOf]; omega
    · have hP := HP.out
      rw [drop_bytes_end s k hlt] at hP
      have hP2 : (x != 95) = R := hP
      have hk2 : s.size ≤ k := by omega
      have HP2 := Aside0.mk hP2
      clear hP hP2 HP
      go_wp2
      go_ret
      exact ⟨congrArg (fun r => Ending.returned (.bool r)) HP2.out, rfl⟩

set_option maxRecDepth 100000 in
set_option maxHeartbeats 2000000 in
theorem uk5 (s : ByteArray) (hs : s.size ≤ 4096) (h0 : 0 < s.size) (hm : (bt s 0 == 45) = false) (hp : (bt s 0 == 43) = false) (h2 : 2 ≤ s.size) (hc : (bt s 0 == 48) = true) (hlb : (lowI (bt s 1) == 98) = false) (hlo : (lowI (bt s 1) == 111) = false) (hl : (lowI (bt s 1) == 120) = true) (w : World) :
    Calls Tryz.prog 120 #[.string s] w fun e w' => e = .returned (.bool (uGo true 48 ((bytesOf s).drop 2))) ∧ w = w' := by
  obtain ⟨R, hR⟩ : ∃ R, uGo true 48 ((bytesOf s).drop 2) = R := ⟨_, rfl⟩
  rw [hR]
  have HR := Aside0.mk hR
  clear hR
  have hx : ∀ h : 0 < s.size, ((s[0]'h).toNat : Int) = bt s 0 := bt_at s 0
  have q0 := eq_true (show 0 < s.size by omega)
  have hx1 : ∀ h : 1 < s.size, ((s[1]'h).toNat : Int) = bt s 1 := bt_at s 1
  have q1 := eq_true (show 1 < s.size by omega)
  go_enter Tryz.func120, Tryz.ntmps120
  go_wp2_with (go_at_call 119; (with_reducible refine (lower_any (bt s 1) _).mono ?_); rintro e w' ⟨rfl, rfl⟩)
  clear hx q0 hx1 q1 hm hp hc hlb hlo hl
  go_loop [3, 4] (fun u i => ∃ (k : Nat) (x : Int), k ≤ s.size ∧ u = .int .i32 x ∧ i = .int .i64 k ∧ Aside0 (uGo true x ((bytesOf s).drop k) = R)) (fun _ i => s.size - (intOf i).toNat)
  case atStart => exact ⟨2, 48, by omega, rfl, rfl, HR⟩
  case round =>
    obtain ⟨k, x, hk, rfl, rfl, HP⟩ := hrel
    by_cases hlt : k < s.size
    · have hP := HP.out
      rw [drop_bytes s k hlt, uGo_cons] at hP
      have hb := bt_range s k
      have hxk : ∀ h : k < s.size, ((s[k]'h).toNat : Int) = bt s k := bt_at s k
      have qk := eq_true hlt
      clear HP
      obtain ⟨c, hc⟩ : ∃ c, bt s k = c := ⟨_, rfl⟩
      rw [hc] at hxk hP hb
      clear hc
      by_cases hd : 48 ≤ c ∧ c ≤ 57
      · rw [show uStep true x c = some 48 by unfold uStep; rw [if_pos hd]] at hP
        obtain ⟨d1, d2⟩ := hd
        have HP := Aside0.mk hP
        clear hP
        go_wp2
        go_round
        case rel => exact ⟨k + 1, 48, by omega, rfl, by go_num, HP⟩
        case measure => simp [intOf]; omega
      · have d0 : c < 48 ∨ 57 < c := by omega
        by_cases hq : 97 ≤ lowI c ∧ lowI c ≤ 102
        · rw [show uStep true x c = some 48 by unfold uStep; rw [if_neg hd, if_pos ⟨rfl, hq.1, hq.2⟩]] at hP
          obtain ⟨d1, d2⟩ := hq
          have HP := Aside0.mk hP
          clear hP hd
          rcases d0 with d0 | d0
          all_goals
            go_wp2_with (go_at_call 119; (with_reducible refine (lower_any _ _).mono ?_); rintro e w' ⟨rfl, rfl⟩)
            go_round
            case rel => exact ⟨k + 1, 48, by omega, rfl, by go_num, HP⟩
            case measure => simp [intOf]; omega
        · have dq : lowI c < 97 ∨ 102 < lowI c := by omega
          have hq2 : ¬ (true = true ∧ 97 ≤ lowI c ∧ lowI c ≤ 102) := fun h => hq h.2
          by_cases c95 : c = 95
          · subst c95
            by_cases x48 : x = 48
            · rw [show uStep true x 95 = some 95 by unfold uStep; rw [if_neg hd, if_neg hq2, if_pos rfl, if_pos x48]] at hP
              have x48c : (x != 48) = false := by rw [x48]; rfl
              have x48b : (x == 48) = true := by rw [x48]; rfl
              have HP := Aside0.mk hP
              clear hP hd hq2 x48 hq
              clear d0
              skip
              all_goals
                go_wp2_with (go_at_call 119; (with_reducible refine (lower_any _ _).mono ?_); rintro e w' ⟨rfl, rfl⟩)
                go_round
                case rel => exact ⟨k + 1, 95, by omega, rfl, by go_num, HP⟩
                case measure => simp [intOf]; omega
            · rw [show uStep true x 95 = none by unfold uStep; rw [if_neg hd, if_neg hq2, if_pos rfl, if_neg x48]] at hP
              have x48b : (x == 48) = false := beq_eq_false_iff_ne.mpr x48
              have x48c : (x != 48) = true := by simp [bne, x48b]
              have HP := Aside0.mk hP
              clear hP hd hq2 x48 hq
              clear d0
              skip
              all_goals
                go_wp2_with (go_at_call 119; (with_reducible refine (lower_any _ _).mono ?_); rintro e w' ⟨rfl, rfl⟩)
                go_ret
                exact ⟨congrArg (fun r => Ending.returned (.bool r)) HP.out, rfl⟩
          · have c95b : (c == 95) = false := beq_eq_false_iff_ne.mpr c95
            by_cases x95 : x = 95
            · rw [show uStep true x c = none by unfold uStep; rw [if_neg hd, if_neg hq2, if_neg c95, if_pos x95]] at hP
              subst x95
              have HP := Aside0.mk hP
              clear hP hd hq2 c95 hq
              rcases d0 with d0 | d0 <;> rcases dq with dq | dq
              all_goals
                go_wp2_with (go_at_call 119; (with_reducible refine (lower_any _ _).mono ?_); rintro e w' ⟨rfl, rfl⟩)
                go_ret
                exact ⟨congrArg (fun r => Ending.returned (.bool r)) HP.out, rfl⟩
            · rw [show uStep true x c = some 33 by unfold uStep; rw [if_neg hd, if_neg hq2, if_neg c95, if_neg x95]] at hP
              have x95b : (x == 95) = false := beq_eq_false_iff_ne.mpr x95
              have HP := Aside0.mk hP
              clear hP hd hq2 x95 c95 hq
              rcases d0 with d0 | d0 <;> rcases dq with dq | dq
              all_goals
                go_wp2_with (go_at_call 119; (with_reducible refine (lower_any _ _).mono ?_); rintro e w' ⟨rfl, rfl⟩)
                go_round
                case rel => exact ⟨k + 1, 33, by omega, rfl, by go_num, HP⟩
                case measure => simp [intOf]; omega
    · have hP := HP.out
      rw [drop_bytes_end s k hlt] at hP
      have hP2 : (x != 95) = R := hP
      have hk2 : s.size ≤ k := by omega
      have HP2 := Aside0.mk hP2
      clear hP hP2 HP
      go_wp2
      go_ret
      exact ⟨congrArg (fun r => Ending.returned (.bool r)) HP2.out, rfl⟩

set_option maxRecDepth 100000 in
set_option maxHeartbeats 2000000 in
theorem uk6 (s : ByteArray) (hs : s.size ≤ 4096) (h0 : 0 < s.size) (hm : (bt s 0 == 45) = false) (hp : (bt s 0 == 43) = false) (h2 : 2 ≤ s.size) (hc : (bt s 0 == 48) = true) (hlb : (lowI (bt s 1) == 98) = false) (hlo : (lowI (bt s 1) == 111) = false) (hl : (lowI (bt s 1) == 120) = false) (w : World) :
    Calls Tryz.prog 120 #[.string s] w fun e w' => e = .returned (.bool (uGo false 94 (bytesOf s))) ∧ w = w' := by
  obtain ⟨R, hR⟩ : ∃ R, uGo false 94 (bytesOf s) = R := ⟨_, rfl⟩
  rw [hR]
  have HR := Aside0.mk hR
  clear hR
  have hx : ∀ h : 0 < s.size, ((s[0]'h).toNat : Int) = bt s 0 := bt_at s 0
  have q0 := eq_true (show 0 < s.size by omega)
  have hx1 : ∀ h : 1 < s.size, ((s[1]'h).toNat : Int) = bt s 1 := bt_at s 1
  have q1 := eq_true (show 1 < s.size by omega)
  go_enter Tryz.func120, Tryz.ntmps120
  go_wp2_with (go_at_call 119; (with_reducible refine (lower_any (bt s 1) _).mono ?_); rintro e w' ⟨rfl, rfl⟩)
  clear hx q0 hx1 q1 hm hp hc hlb hlo hl
  go_loop [3, 4] (fun u i => ∃ (k : Nat) (x : Int), k ≤ s.size ∧ u = .int .i32 x ∧ i = .int .i64 k ∧ Aside0 (uGo false x ((bytesOf s).drop k) = R)) (fun _ i => s.size - (intOf i).toNat)
  case atStart => exact ⟨0, 94, by omega, rfl, rfl, HR⟩
  case round =>
    obtain ⟨k, x, hk, rfl, rfl, HP⟩ := hrel
    by_cases hlt : k < s.size
    · have hP := HP.out
      rw [drop_bytes s k hlt, uGo_cons] at hP
      have hb := bt_range s k
      have hxk : ∀ h : k < s.size, ((s[k]'h).toNat : Int) = bt s k := bt_at s k
      have qk := eq_true hlt
      clear HP
      obtain ⟨c, hc⟩ : ∃ c, bt s k = c := ⟨_, rfl⟩
      rw [hc] at hxk hP hb
      clear hc
      by_cases hd : 48 ≤ c ∧ c ≤ 57
      · rw [show uStep false x c = some 48 by unfold uStep; rw [if_pos hd]] at hP
        obtain ⟨d1, d2⟩ := hd
        have HP := Aside0.mk hP
        clear hP
        go_wp2
        go_round
        case rel => exact ⟨k + 1, 48, by omega, rfl, by go_num, HP⟩
        case measure => simp [intOf]; omega
      · have d0 : c < 48 ∨ 57 < c := by omega
        have hq2 : ¬ (false = true ∧ 97 ≤ lowI c ∧ lowI c ≤ 102) := fun h => absurd h.1 (by simp)
        by_cases c95 : c = 95
        · subst c95
          by_cases x48 : x = 48
          · rw [show uStep false x 95 = some 95 by unfold uStep; rw [if_neg hd, if_neg hq2, if_pos rfl, if_pos x48]] at hP
            have x48c : (x != 48) = false := by rw [x48]; rfl
            have x48b : (x == 48) = true := by rw [x48]; rfl
            have HP := Aside0.mk hP
            clear hP hd hq2 x48 
            clear d0
            skip
            all_goals
              go_wp2
              go_round
              case rel => exact ⟨k + 1, 95, by omega, rfl, by go_num, HP⟩
              case measure => simp [intOf]; omega
          · rw [show uStep false x 95 = none by unfold uStep; rw [if_neg hd, if_neg hq2, if_pos rfl, if_neg x48]] at hP
            have x48b : (x == 48) = false := beq_eq_false_iff_ne.mpr x48
            have x48c : (x != 48) = true := by simp [bne, x48b]
            have HP := Aside0.mk hP
            clear hP hd hq2 x48 
            clear d0
            skip
            all_goals
              go_wp2
              go_ret
              exact ⟨congrArg (fun r => Ending.returned (.bool r)) HP.out, rfl⟩
        · have c95b : (c == 95) = false := beq_eq_false_iff_ne.mpr c95
          by_cases x95 : x = 95
          · rw [show uStep false x c = none by unfold uStep; rw [if_neg hd, if_neg hq2, if_neg c95, if_pos x95]] at hP
            subst x95
            have HP := Aside0.mk hP
            clear hP hd hq2 c95 
            rcases d0 with d0 | d0
            all_goals
              go_wp2
              go_ret
              exact ⟨congrArg (fun r => Ending.returned (.bool r)) HP.out, rfl⟩
          · rw [show uStep false x c = some 33 by unfold uStep; rw [if_neg hd, if_neg hq2, if_neg c95, if_neg x95]] at hP
            have x95b : (x == 95) = false := beq_eq_false_iff_ne.mpr x95
            have HP := Aside0.mk hP
            clear hP hd hq2 x95 c95 
            rcases d0 with d0 | d0
            all_goals
              go_wp2
              go_round
              case rel => exact ⟨k + 1, 33, by omega, rfl, by go_num, HP⟩
              case measure => simp [intOf]; omega
    · have hP := HP.out
      rw [drop_bytes_end s k hlt] at hP
      have hP2 : (x != 95) = R := hP
      have hk2 : s.size ≤ k := by omega
      have HP2 := Aside0.mk hP2
      clear hP hP2 HP
      go_wp2
      go_ret
      exact ⟨congrArg (fun r => Ending.returned (.bool r)) HP2.out, rfl⟩

theorem uok_same (s : ByteArray) (hs : s.size ≤ 4096) (h0 : 0 < s.size) (hm : (bt s 0 == 45) = false) (hp : (bt s 0 == 43) = false) (w : World) : Calls Tryz.prog 120 #[.string s] w fun e w' => e = .returned (.bool (uOK s)) ∧ w = w' := by
  unfold uOK
  by_cases h2 : 2 ≤ s.size
  · cases hc : (bt s 0 == 48)
    · rw [if_neg (by simp)]; exact uk2 s hs h0 hm hp h2 hc w
    · cases hb : (lowI (bt s 1) == 98)
      · cases ho : (lowI (bt s 1) == 111)
        · cases hx : (lowI (bt s 1) == 120)
          · rw [if_neg (by simp)]; exact uk6 s hs h0 hm hp h2 hc hb ho hx w
          · rw [if_pos ⟨h2, rfl, Or.inr (Or.inr rfl)⟩]; exact uk5 s hs h0 hm hp h2 hc hb ho hx w
        · rw [if_pos ⟨h2, rfl, Or.inr (Or.inl rfl)⟩]
          have he : (lowI (bt s 1) == 120) = false := by have := eq_of_beq ho; rw [this]; rfl
          rw [he]; exact uk4 s hs h0 hm hp h2 hc hb ho w
      · rw [if_pos ⟨h2, rfl, Or.inl rfl⟩]
        have he : (lowI (bt s 1) == 120) = false := by have := eq_of_beq hb; rw [this]; rfl
        rw [he]; exact uk3 s hs h0 hm hp h2 hc hb w
  · rw [if_neg (fun h => h2 h.1)]; exact uk1 s hs h0 hm hp (by omega) w
theorem uok_any (s : ByteArray) (hs : s.size ≤ 4096) (h0 : 0 < s.size) (hm : (bt s 0 == 45) = false) (hp : (bt s 0 == 43) = false) (w : World) : Calls Tryz.prog 120 #[.string s] w fun e w' => e = .returned (.bool (uOK s)) ∧ Drawn0 w w' :=
  (uok_same s hs h0 hm hp w).mono fun e w' h => ⟨h.1, h.2 ▸ Drawn0.refl _⟩
theorem uok_mono (s : ByteArray) (hs : s.size ≤ 4096) (h0 : 0 < s.size) (hm : (bt s 0 == 45) = false) (hp : (bt s 0 == 43) = false) (r : Bool) (h : uOK s = r) (w : World) : Calls Tryz.prog 120 #[.string s] w fun e w' => e = .returned (.bool r) ∧ Drawn0 w w' := h ▸ uok_any s hs h0 hm hp w
end Go.Proofs.YtnanfmjbdmfmkaaGreatDoor

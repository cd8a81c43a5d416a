/- Joined of: Uok Pu. -/
import Derived.Test.YtnhonclncjgjoaaGreatDoorB
import Derived.Test.YtnhonclncjgjoaaGreatDoorProg
namespace Go.Proofs.YtnhonclncjgjoaaGreatDoor
open Go Go.RowKit Go.Proofs.YtnhonclncjgjoaaGreatDoorW.PrintWords
set_option linter.unusedVariables false
set_option linter.unusedSimpArgs false

def uStep (hex : Bool) (saw c : Int) : Option Int := if 48 ≤ c ∧ c ≤ 57 then some 48 else if hex = true ∧ 97 ≤ lowI c ∧ lowI c ≤ 102 then some 48 else if c = 95 then (if saw = 48 then some 95 else none) else if saw = 95 then none else some 33
def uGo (hex : Bool) : Int → List Int → Bool
  | saw, [] => saw != 95
  | saw, c :: t => match uStep hex saw c with | none => false | some k => uGo hex k t
def uOK (s : ByteArray) : Bool := if 2 ≤ s.size ∧ (bt s 0 == 48) = true ∧ ((lowI (bt s 1) == 98) = true ∨ (lowI (bt s 1) == 111) = true ∨ (lowI (bt s 1) == 120) = true) then uGo (lowI (bt s 1) == 120) 48 ((bytesOf s).drop 2) else uGo false 94 (bytesOf s)
theorem uGo_cons (hex : Bool) (saw c : Int) (t : List Int) : uGo hex saw (c :: t) = match uStep hex saw c with | none => false | some k => uGo hex k t := rfl

set_option maxRecDepth 100000 in
set_option maxHeartbeats 2000000 in
theorem uk1 (s : ByteArray) (hs : s.size ≤ 4096) (h0 : 0 < s.size) (hm : (bt s 0 == 45) = false) (hp : (bt s 0 == 43) = false) (h2 : s.size = 1) (w : World) :
    Calls Tryz.prog 121 #[.string s] w fun e w' => e = .returned (.bool (uGo false 94 (bytesOf s))) ∧ w = w' := by
  obtain ⟨R, hR⟩ : ∃ R, uGo false 94 (bytesOf s) = R := ⟨_, rfl⟩
  rw [hR]
  have HR := Aside0.mk hR
  clear hR
  have hx : ∀ h : 0 < s.size, ((s[0]'h).toNat : Int) = bt s 0 := bt_at s 0
  have q0 := eq_true (show 0 < s.size by omega)
  have h3 : ¬ 2 ≤ s.size := by omega
  have h3b : s.size < 2 := by omega
  clear h2
  go_enter Tryz.func121, Tryz.ntmps121
  go_wp2_with (go_at_call 120; (with_reducible refine (lower_any (bt s 1) _).mono ?_); rintro e w' ⟨rfl, rfl⟩)
  clear hx q0  hm hp 
  go_loop [3, 4] (fun u i => ∃ (k : Nat) (x : Int), k ≤ s.size ∧ u = .int .i32 x ∧ i = .int .i64 k ∧ Aside0 (uGo false x ((bytesOf s).drop k) = R)) (fun _ i => s.size - (intOf i).toNat)
  case atStart => exact ⟨0, 94, by omega, rfl, rfl, HR⟩
  case round =>
    obtain ⟨k, x, hk, rfl, rfl, HP⟩ := hrel
    by_cases hlt : k < s.size
    · have hP := HP.out
      rw [drop_bytes s k hlt, uGo_cons] at hP
      have hb := bt_range s k
      have hxk : ∀ h : k < s.size, ((s[k]'h).toNat : Int) = bt s k := bt_at s k
      have qk := eq_true hlt
      clear HP
      obtain ⟨c, hc⟩ : ∃ c, bt s k = c := ⟨_, rfl⟩
      rw [hc] at hxk hP hb
      clear hc
      by_cases hd : 48 ≤ c ∧ c ≤ 57
      · rw [show uStep false x c = some 48 by unfold uStep; rw [if_pos hd]] at hP
        obtain ⟨d1, d2⟩ := hd
        have HP := Aside0.mk hP
        clear hP
        go_wp2
        go_round
        case rel => exact ⟨k + 1, 48, by omega, rfl, by go_num, HP⟩
        case measure => simp [intOf]; omega
      · have d0 : c < 48 ∨ 57 < c := by omega
        have hq2 : ¬ (false = true ∧ 97 ≤ lowI c ∧ lowI c ≤ 102) := fun h => absurd h.1 (by simp)
        by_cases c95 : c = 95
        · subst c95
          by_cases x48 : x = 48
          · rw [show uStep false x 95 = some 95 by unfold uStep; rw [if_neg hd, if_neg hq2, if_pos rfl, if_pos x48]] at hP
            have x48c : (x != 48) = false := by rw [x48]; rfl
            have x48b : (x == 48) = true := by rw [x48]; rfl
            have HP := Aside0.mk hP
            clear hP hd hq2 x48 
            clear d0
            skip
            all_goals
              go_wp2
              go_round
              case rel => exact ⟨k + 1, 95, by omega, rfl, by go_num, HP⟩
              case measure => simp [intOf]; omega
          · rw [show uStep false x 95 = none by unfold uStep; rw [if_neg hd, if_neg hq2, if_pos rfl, if_neg x48]] at hP
            have x48b : (x == 48) = false := beq_eq_false_iff_ne.mpr x48
            have x48c : (x != 48) = true := by simp [bne, x48b]
            have HP := Aside0.mk hP
            clear hP hd hq2 x48 
            clear d0
            skip
            all_goals
              go_wp2
              go_ret
              exact ⟨congrArg (fun r => Ending.returned (.bool r)) HP.out, rfl⟩
        · have c95b : (c == 95) = false := beq_eq_false_iff_ne.mpr c95
          by_cases x95 : x = 95
          · rw [show uStep false x c = none by unfold uStep; rw [if_neg hd, if_neg hq2, if_neg c95, if_pos x95]] at hP
            subst x95
            have HP := Aside0.mk hP
            clear hP hd hq2 c95 
            rcases d0 with d0 | d0
            all_goals
              go_wp2
              go_ret
              exact ⟨congrArg (fun r => Ending.returned (.bool r)) HP.out, rfl⟩
          · rw [show uStep false x c = some 33 by unfold uStep; rw [if_neg hd, if_neg hq2, if_neg c95, if_neg x95]] at hP
            have x95b : (x == 95) = false := beq_eq_false_iff_ne.mpr x95
            have HP := Aside0.mk hP
            clear hP hd hq2 x95 c95 
            rcases d0 with d0 | d0
            all_goals
              go_wp2
              go_round
              case rel => exact ⟨k + 1, 33, by omega, rfl, by go_num, HP⟩
              case measure => simp [intOf]; omega
    · have hP := HP.out
      rw [drop_bytes_end s k hlt] at hP
      have hP2 : (x != 95) = R := hP
      have hk2 : s.size ≤ k := by omega
      have HP2 := Aside0.mk hP2
      clear hP hP2 HP
      go_wp2
      go_ret
      exact ⟨congrArg (fun r => Ending.returned (.bool r)) HP2.out, rfl⟩

set_option maxRecDepth 100000 in
set_option maxHeartbeats 2000000 in
theorem uk2 (s : ByteArray) (hs : s.size ≤ 4096) (h0 : 0 < s.size) (hm : (bt s 0 == 45) = false) (hp : (bt s 0 == 43) = false) (h2 : 2 ≤ s.size) (hc : (bt s 0 == 48) = false) (w : World) :
    Calls Tryz.prog 121 #[.string s] w fun e w' => e = .returned (.bool (uGo false 94 (bytesOf s))) ∧ w = w' := by
  obtain ⟨R, hR⟩ : ∃ R, uGo false 94 (bytesOf s) = R := ⟨_, rfl⟩
  rw [hR]
  have HR := Aside0.mk hR
  clear hR
  have hx : ∀ h : 0 < s.size, ((s[0]'h).toNat : Int) = bt s 0 := bt_at s 0
  have q0 := eq_true (show 0 < s.size by omega)
  have hx1 : ∀ h : 1 < s.size, ((s[1]'h).toNat : Int) = bt s 1 := bt_at s 1
  have q1 := eq_true (show 1 < s.size by omega)
  go_enter Tryz.func121, Tryz.ntmps121
  go_wp2_with (go_at_call 120; (with_reducible refine (lower_any (bt s 1) _).mono ?_); rintro e w' ⟨rfl, rfl⟩)
  clear hx q0 hx1 q1 hm hp hc
  go_loop [3, 4] (fun u i => ∃ (k : Nat) (x : Int), k ≤ s.size ∧ u = .int .i32 x ∧ i = .int .i64 k ∧ Aside0 (uGo false x ((bytesOf s).drop k) = R)) (fun _ i => s.size - (intOf i).toNat)
  case atStart => exact ⟨0, 94, by omega, rfl, rfl, HR⟩
  case round =>
    obtain ⟨k, x, hk, rfl, rfl, HP⟩ := hrel
    by_cases hlt : k < s.size
    · have hP := HP.out
      rw [drop_bytes s k hlt, uGo_cons] at hP
      have hb := bt_range s k
      have hxk : ∀ h : k < s.size, ((s[k]'h).toNat : Int) = bt s k := bt_at s k
      have qk := eq_true hlt
      clear HP
      obtain ⟨c, hc⟩ : ∃ c, bt s k = c := ⟨_, rfl⟩
      rw [hc] at hxk hP hb
      clear hc
      by_cases hd : 48 ≤ c ∧ c ≤ 57
      · rw [show uStep false x c = some 48 by unfold uStep; rw [if_pos hd]] at hP
        obtain ⟨d1, d2⟩ := hd
        have HP := Aside0.mk hP
        clear hP
        go_wp2
        go_round
        case rel => exact ⟨k + 1, 48, by omega, rfl, by go_num, HP⟩
        case measure => simp [intOf]; omega
      · have d0 : c < 48 ∨ 57 < c := by omega
        have hq2 : ¬ (false = true ∧ 97 ≤ lowI c ∧ lowI c ≤ 102) := fun h => absurd h.1 (by simp)
        by_cases c95 : c = 95
        · subst c95
          by_cases x48 : x = 48
          · rw [show uStep false x 95 = some 95 by unfold uStep; rw [if_neg hd, if_neg hq2, if_pos rfl, if_pos x48]] at hP
            have x48c : (x != 48) = false := by rw [x48]; rfl
            have x48b : (x == 48) = true := by rw [x48]; rfl
            have HP := Aside0.mk hP
            clear hP hd hq2 x48 
            clear d0
            skip
            all_goals
              go_wp2
              go_round
              case rel => exact ⟨k + 1, 95, by omega, rfl, by go_num, HP⟩
              case measure => simp [intOf]; omega
          · rw [show uStep false x 95 = none by unfold uStep; rw [if_neg hd, if_neg hq2, if_pos rfl, if_neg x48]] at hP
            have x48b : (x == 48) = false := beq_eq_false_iff_ne.mpr x48
            have x48c : (x != 48) = true := by simp [bne, x48b]
            have HP := Aside0.mk hP
            clear hP hd hq2 x48 
            clear d0
            skip
            all_goals
              go_wp2
              go_ret
              exact ⟨congrArg (fun r => Ending.returned (.bool r)) HP.out, rfl⟩
        · have c95b : (c == 95) = false := beq_eq_false_iff_ne.mpr c95
          by_cases x95 : x = 95
          · rw [show uStep false x c = none by unfold uStep; rw [if_neg hd, if_neg hq2, if_neg c95, if_pos x95]] at hP
            subst x95
            have HP := Aside0.mk hP
            clear hP hd hq2 c95 
            rcases d0 with d0 | d0
            all_goals
              go_wp2
              go_ret
              exact ⟨congrArg (fun r => Ending.returned (.bool r)) HP.out, rfl⟩
          · rw [show uStep false x c = some 33 by unfold uStep; rw [if_neg hd, if_neg hq2, if_neg c95, if_neg x95]] at hP
            have x95b : (x == 95) = false := beq_eq_false_iff_ne.mpr x95
            have HP := Aside0.mk hP
            clear hP hd hq2 x95 c95 
            rcases d0 with d0 | d0
            all_goals
              go_wp2
              go_round
              case rel => exact ⟨k + 1, 33, by omega, rfl, by go_num, HP⟩
              case measure => simp [intOf]; omega
    · have hP := HP.out
      rw [drop_bytes_end s k hlt] at hP
      have hP2 : (x != 95) = R := hP
      have hk2 : s.size ≤ k := by omega
      have HP2 := Aside0.mk hP2
      clear hP hP2 HP
      go_wp2
      go_ret
      exact ⟨congrArg (fun r => Ending.returned (.bool r)) HP2.out, rfl⟩

set_option maxRecDepth 100000 in
set_option maxHeartbeats 2000000 in
theorem uk3 (s : ByteArray) (hs : s.size ≤ 4096) (h0 : 0 < s.size) (hm : (bt s 0 == 45) = false) (hp : (bt s 0 == 43) = false) (h2 : 2 ≤ s.size) (hc : (bt s 0 == 48) = true) (hl : (lowI (bt s 1) == 98) = true) (w : World) :
    Calls Tryz.prog 121 #[.string s] w fun e w' => e = .returned (.bool (uGo false 48 ((bytesOf s).drop 2))) ∧ w = w' := by
  obtain ⟨R, hR⟩ : ∃ R, uGo false 48 ((bytesOf s).drop 2) = R := ⟨_, rfl⟩
  rw [hR]
  have HR := Aside0.mk hR
  clear hR
  have hx : ∀ h : 0 < s.size, ((s[0]'h).toNat : Int) = bt s 0 := bt_at s 0
  have q0 := eq_true (show 0 < s.size by omega)
  have hx1 : ∀ h : 1 < s.size, ((s[1]'h).toNat : Int) = bt s 1 := bt_at s 1
  have q1 := eq_true (show 1 < s.size by omega)
  have hlx : (lowI (bt s 1) == 120) = false := by have := eq_of_beq hl; rw [this]; rfl
  go_enter Tryz.func121, Tryz.ntmps121
  go_wp2_with (go_at_call 120; (with_reducible refine (lower_any (bt s 1) _).mono ?_); rintro e w' ⟨rfl, rfl⟩)
  clear hx q0 hx1 q1 hm hp hc hl hlx
  go_loop [3, 4] (fun u i => ∃ (k : Nat) (x : Int), k ≤ s.size ∧ u = .int .i32 x ∧ i = .int .i64 k ∧ Aside0 (uGo false x ((bytesOf s).drop k) = R)) (fun _ i => s.size - (intOf i).toNat)
  case atStart => exact ⟨2, 48, by omega, rfl, rfl, HR⟩
  case round =>
    obtain ⟨k, x, hk, rfl, rfl, HP⟩ := hrel
    by_cases hlt : k < s.size
    · have hP := HP.out
      rw [drop_bytes s k hlt, uGo_cons] at hP
      have hb := bt_range s k
      have hxk : ∀ h : k < s.size, ((s[k]'h).toNat : Int) = bt s k := bt_at s k
      have qk := eq_true hlt
      clear HP
      obtain ⟨c, hc⟩ : ∃ c, bt s k = c := ⟨_, rfl⟩
      rw [hc] at hxk hP hb
      clear hc
      by_cases hd : 48 ≤ c ∧ c ≤ 57
      · rw [show uStep false x c = some 48 by unfold uStep; rw [if_pos hd]] at hP
        obtain ⟨d1, d2⟩ := hd
        have HP := Aside0.mk hP
        clear hP
        go_wp2
        go_round
        case rel => exact ⟨k + 1, 48, by omega, rfl, by go_num, HP⟩
        case measure => simp [intOf]; omega
      · have d0 : c < 48 ∨ 57 < c := by omega
        have hq2 : ¬ (false = true ∧ 97 ≤ lowI c ∧ lowI c ≤ 102) := fun h => absurd h.1 (by simp)
        by_cases c95 : c = 95
        · subst c95
          by_cases x48 : x = 48
          · rw [show uStep false x 95 = some 95 by unfold uStep; rw [if_neg hd, if_neg hq2, if_pos rfl, if_pos x48]] at hP
            have x48c : (x != 48) = false := by rw [x48]; rfl
            have x48b : (x == 48) = true := by rw [x48]; rfl
            have HP := Aside0.mk hP
            clear hP hd hq2 x48 
            clear d0
            skip
            all_goals
              go_wp2
              go_round
              case rel => exact ⟨k + 1, 95, by omega, rfl, by go_num, HP⟩
              case measure => simp [intOf]; omega
          · rw [show uStep false x 95 = none by unfold uStep; rw [if_neg hd, if_neg hq2, if_pos rfl, if_neg x48]] at hP
            have x48b : (x == 48) = false := beq_eq_false_iff_ne.mpr x48
            have x48c : (x != 48) = true := by simp [bne, x48b]
            have HP := Aside0.mk hP
            clear hP hd hq2 x48 
            clear d0
            skip
            all_goals
              go_wp2
              go_ret
              exact ⟨congrArg (fun r => Ending.returned (.bool r)) HP.out, rfl⟩
        · have c95b : (c == 95) = false := beq_eq_false_iff_ne.mpr c95
          by_cases x95 : x = 95
          · rw [show uStep false x c = none by unfold uStep; rw [if_neg hd, if_neg hq2, if_neg c95, if_pos x95]] at hP
            subst x95
            have HP := Aside0.mk hP
            clear hP hd hq2 c95 
            rcases d0 with d0 | d0
            all_goals
              go_wp2
              go_ret
              exact ⟨congrArg (fun r => Ending.returned (.bool r)) HP.out, rfl⟩
          · rw [show uStep false x c = some 33 by unfold uStep; rw [if_neg hd, if_neg hq2, if_neg c95, if_neg x95]] at hP
            have x95b : (x == 95) = false := beq_eq_false_iff_ne.mpr x95
            have HP := Aside0.mk hP
            clear hP hd hq2 x95 c95 
            rcases d0 with d0 | d0
            all_goals
              go_wp2
              go_round
              case rel => exact ⟨k + 1, 33, by omega, rfl, by go_num, HP⟩
              case measure => simp [intOf]; omega
    · have hP := HP.out
      rw [drop_bytes_end s k hlt] at hP
      have hP2 : (x != 95) = R := hP
      have hk2 : s.size ≤ k := by omega
      have HP2 := Aside0.mk hP2
      clear hP hP2 HP
      go_wp2
      go_ret
      exact ⟨congrArg (fun r => Ending.returned (.bool r)) HP2.out, rfl⟩

set_option maxRecDepth 100000 in
set_option maxHeartbeats 2000000 in
theorem uk4 (s : ByteArray) (hs : s.size ≤ 4096) (h0 : 0 < s.size) (hm : (bt s 0 == 45) = false) (hp : (bt s 0 == 43) = false) (h2 : 2 ≤ s.size) (hc : (bt s 0 == 48) = true) (hlb : (lowI (bt s 1) == 98) = false) (hl : (lowI (bt s 1) == 111) = true) (w : World) :
    Calls Tryz.prog 121 #[.string s] w fun e w' => e = .returned (.bool (uGo false 48 ((bytesOf s).drop 2))) ∧ w = w' := by
  obtain ⟨R, hR⟩ : ∃ R, uGo false 48 ((bytesOf s).drop 2) = R := ⟨_, rfl⟩
  rw [hR]
  have HR := Aside0.mk hR
  clear hR
  have hx : ∀ h : 0 < s.size, ((s[0]'h).toNat : Int) = bt s 0 := bt_at s 0
  have q0 := eq_true (show 0 < s.size by omega)
  have hx1 : ∀ h : 1 < s.size, ((s[1]'h).toNat : Int) = bt s 1 := bt_at s 1
  have q1 := eq_true (show 1 < s.size by omega)
  have hlx : (lowI (bt s 1) == 120) = false := by have := eq_of_beq hl; rw [this]; rfl
  go_enter Tryz.func121, Tryz.ntmps121
  go_wp2_with (go_at_call 120; (with_reducible refine (lower_any (bt s 1) _).mono ?_); rintro e w' ⟨rfl, rfl⟩)
  clear hx q0 hx1 q1 hm hp hc hlb hl hlx
  go_loop [3, 4] (fun u i => ∃ (k : Nat) (x : Int), k ≤ s.size ∧ u = .int .i32 x ∧ i = .int .i64 k ∧ Aside0 (uGo false x ((bytesOf s).drop k) = R)) (fun _ i => s.size - (intOf i).toNat)
  case atStart => exact ⟨2, 48, by omega, rfl, rfl, HR⟩
  case round =>
    obtain ⟨k, x, hk, rfl, rfl, HP⟩ := hrel
    by_cases hlt : k < s.size
    · have hP := HP.out
      rw [drop_bytes s k hlt, uGo_cons] at hP
      have hb := bt_range s k
      have hxk : ∀ h : k < s.size, ((s[k]'h).toNat : Int) = bt s k := bt_at s k
      have qk := eq_true hlt
      clear HP
      obtain ⟨c, hc⟩ : ∃ c, bt s k = c := ⟨_, rfl⟩
      rw [hc] at hxk hP hb
      clear hc
      by_cases hd : 48 ≤ c ∧ c ≤ 57
      · rw [show uStep false x c = some 48 by unfold uStep; rw [if_pos hd]] at hP
        obtain ⟨d1, d2⟩ := hd
        have HP := Aside0.mk hP
        clear hP
        go_wp2
        go_round
        case rel => exact ⟨k + 1, 48, by omega, rfl, by go_num, HP⟩
        case measure => simp [intOf]; omega
      · have d0 : c < 48 ∨ 57 < c := by omega
        have hq2 : ¬ (false = true ∧ 97 ≤ lowI c ∧ lowI c ≤ 102) := fun h => absurd h.1 (by simp)
        by_cases c95 : c = 95
        · subst c95
          by_cases x48 : x = 48
          · rw [show uStep false x 95 = some 95 by unfold uStep; rw [if_neg hd, if_neg hq2, if_pos rfl, if_pos x48]] at hP
            have x48c : (x != 48) = false := by rw [x48]; rfl
            have x48b : (x == 48) = true := by rw [x48]; rfl
            have HP := Aside0.mk hP
            clear hP hd hq2 x48 
            clear d0
            skip
            all_goals
              go_wp2
              go_round
              case rel => exact ⟨k + 1, 95, by omega, rfl, by go_num, HP⟩
              case measure => simp [intOf]; omega
          · rw [show uStep false x 95 = none by unfold uStep; rw [if_neg hd, if_neg hq2, if_pos rfl, if_neg x48]] at hP
            have x48b : (x == 48) = false := beq_eq_false_iff_ne.mpr x48
            have x48c : (x != 48) = true := by simp [bne, x48b]
            have HP := Aside0.mk hP
            clear hP hd hq2 x48 
            clear d0
            skip
            all_goals
              go_wp2
              go_ret
              exact ⟨congrArg (fun r => Ending.returned (.bool r)) HP.out, rfl⟩
        · have c95b : (c == 95) = false := beq_eq_false_iff_ne.mpr c95
          by_cases x95 : x = 95
          · rw [show uStep false x c = none by unfold uStep; rw [if_neg hd, if_neg hq2, if_neg c95, if_pos x95]] at hP
            subst x95
            have HP := Aside0.mk hP
            clear hP hd hq2 c95 
            rcases d0 with d0 | d0
            all_goals
              go_wp2
              go_ret
              exact ⟨congrArg (fun r => Ending.returned (.bool r)) HP.out, rfl⟩
          · rw [show uStep false x c = some 33 by unfold uStep; rw [if_neg hd, if_neg hq2, if_neg c95, if_neg x95]] at hP
            have x95b : (x == 95) = false := beq_eq_false_iff_ne.mpr x95
            have HP := Aside0.mk hP
            clear hP hd hq2 x95 c95 
            rcases d0 with d0 | d0
            all_goals
              go_wp2
              go_round
              case rel => exact ⟨k + 1, 33, by omega, rfl, by go_num, HP⟩
              case measure => simp [intOf]; omega
    · have hP := HP.out
      rw [drop_bytes_end s k hlt] at hP
      have hP2 : (x != 95) = R := hP
      have hk2 : s.size ≤ k := by omega
      have HP2 := Aside0.mk hP2
      clear hP hP2 HP
      go_wp2
      go_ret
      exact ⟨congrArg (fun r => Ending.returned (.bool r)) HP2.out, rfl⟩

set_option maxRecDepth 100000 in
set_option maxHeartbeats 2000000 in
theorem uk5 (s : ByteArray) (hs : s.size ≤ 4096) (h0 : 0 < s.size) (hm : (bt s 0 == 45) = false) (hp : (bt s 0 == 43) = false) (h2 : 2 ≤ s.size) (hc : (bt s 0 == 48) = true) (hlb : (lowI (bt s 1) == 98) = false) (hlo : (lowI (bt s 1) == 111) = false) (hl : (lowI (bt s 1) == 120) = true) (w : World) :
    Calls Tryz.prog 121 #[.string s] w fun e w' => e = .returned (.bool (uGo true 48 ((bytesOf s).drop 2))) ∧ w = w' := by
  obtain ⟨R, hR⟩ : ∃ R, uGo true 48 ((bytesOf s).drop 2) = R := ⟨_, rfl⟩
  rw [hR]
  have HR := Aside0.mk hR
  clear hR
  have hx : ∀ h : 0 < s.size, ((s[0]'h).toNat : Int) = bt s 0 := bt_at s 0
  have q0 := eq_true (show 0 < s.size by omega)
  have hx1 : ∀ h : 1 < s.size, ((s[1]'h).toNat : Int) = bt s 1 := bt_at s 1
  have q1 := eq_true (show 1 < s.size by omega)
  go_enter Tryz.func121, Tryz.ntmps121
  go_wp2_with (go_at_call 120; (with_reducible refine (lower_any (bt s 1) _).mono ?_); rintro e w' ⟨rfl, rfl⟩)
  clear hx q0 hx1 q1 hm hp hc hlb hlo hl
  go_loop [3, 4] (fun u i => ∃ (k : Nat) (x : Int), k ≤ s.size ∧ u = .int .i32 x ∧ i = .int .i64 k ∧ Aside0 (uGo true x ((bytesOf s).drop k) = R)) (fun _ i => s.size - (intOf i).toNat)
  case atStart => exact ⟨2, 48, by omega, rfl, rfl, HR⟩
  case round =>
    obtain ⟨k, x, hk, rfl, rfl, HP⟩ := hrel
    by_cases hlt : k < s.size
    · have hP := HP.out
      rw [drop_bytes s k hlt, uGo_cons] at hP
      have hb := bt_range s k
      have hxk : ∀ h : k < s.size, ((s[k]'h).toNat : Int) = bt s k := bt_at s k
      have qk := eq_true hlt
      clear HP
      obtain ⟨c, hc⟩ : ∃ c, bt s k = c := ⟨_, rfl⟩
      rw [hc] at hxk hP hb
      clear hc
      by_cases hd : 48 ≤ c ∧ c ≤ 57
      · rw [show uStep true x c = some 48 by unfold uStep; rw [if_pos hd]] at hP
        obtain ⟨d1, d2⟩ := hd
        have HP := Aside0.mk hP
        clear hP
        go_wp2
        go_round
        case rel => exact ⟨k + 1, 48, by omega, rfl, by go_num, HP⟩
        case measure => simp [intOf]; omega
      · have d0 : c < 48 ∨ 57 < c := by omega
        by_cases hq : 97 ≤ lowI c ∧ lowI c ≤ 102
        · rw [show uStep true x c = some 48 by unfold uStep; rw [if_neg hd, if_pos ⟨rfl, hq.1, hq.2⟩]] at hP
          obtain ⟨d1, d2⟩ := hq
          have HP := Aside0.mk hP
          clear hP hd
          rcases d0 with d0 | d0
          all_goals
            go_wp2_with (go_at_call 120; (with_reducible refine (lower_any _ _).mono ?_); rintro e w' ⟨rfl, rfl⟩)
            go_round
            case rel => exact ⟨k + 1, 48, by omega, rfl, by go_num, HP⟩
            case measure => simp [intOf]; omega
        · have dq : lowI c < 97 ∨ 102 < lowI c := by omega
          have hq2 : ¬ (true = true ∧ 97 ≤ lowI c ∧ lowI c ≤ 102) := fun h => hq h.2
          by_cases c95 : c = 95
          · subst c95
            by_cases x48 : x = 48
            · rw [show uStep true x 95 = some 95 by unfold uStep; rw [if_neg hd, if_neg hq2, if_pos rfl, if_pos x48]] at hP
              have x48c : (x != 48) = false := by rw [x48]; rfl
              have x48b : (x == 48) = true := by rw [x48]; rfl
              have HP := Aside0.mk hP
              clear hP hd hq2 x48 hq
              clear d0
              skip
              all_goals
                go_wp2_with (go_at_call 120; (with_reducible refine (lower_any _ _).mono ?_); rintro e w' ⟨rfl, rfl⟩)
                go_round
                case rel => exact ⟨k + 1, 95, by omega, rfl, by go_num, HP⟩
                case measure => simp [intOf]; omega
            · rw [show uStep true x 95 = none by unfold uStep; rw [if_neg hd, if_neg hq2, if_pos rfl, if_neg x48]] at hP
              have x48b : (x == 48) = false := beq_eq_false_iff_ne.mpr x48
              have x48c : (x != 48) = true := by simp [bne, x48b]
              have HP := Aside0.mk hP
              clear hP hd hq2 x48 hq
              clear d0
              skip
              all_goals
                go_wp2_with (go_at_call 120; (with_reducible refine (lower_any _ _).mono ?_); rintro e w' ⟨rfl, rfl⟩)
                go_ret
                exact ⟨congrArg (fun r => Ending.returned (.bool r)) HP.out, rfl⟩
          · have c95b : (c == 95) = false := beq_eq_false_iff_ne.mpr c95
            by_cases x95 : x = 95
            · rw [show uStep true x c = none by unfold uStep; rw [if_neg hd, if_neg hq2, if_neg c95, if_pos x95]] at hP
              subst x95
              have HP := Aside0.mk hP
              clear hP hd hq2 c95 hq
              rcases d0 with d0 | d0 <;> rcases dq with dq | dq
              all_goals
                go_wp2_with (go_at_call 120; (with_reducible refine (lower_any _ _).mono ?_); rintro e w' ⟨rfl, rfl⟩)
                go_ret
                exact ⟨congrArg (fun r => Ending.returned (.bool r)) HP.out, rfl⟩
            · rw [show uStep true x c = some 33 by unfold uStep; rw [if_neg hd, if_neg hq2, if_neg c95, if_neg x95]] at hP
              have x95b : (x == 95) = false := beq_eq_false_iff_ne.mpr x95
              have HP := Aside0.mk hP
              clear hP hd hq2 x95 c95 hq
              rcases d0 with d0 | d0 <;> rcases dq with dq | dq
              all_goals
                go_wp2_with (go_at_call 120; (with_reducible refine (lower_any _ _).mono ?_); rintro e w' ⟨rfl, rfl⟩)
                go_round
                case rel => exact ⟨k + 1, 33, by omega, rfl, by go_num, HP⟩
                case measure => simp [intOf]; omega
    · have hP := HP.out
      rw [drop_bytes_end s k hlt] at hP
      have hP2 : (x != 95) = R := hP
      have hk2 : s.size ≤ k := by omega
      have HP2 := Aside0.mk hP2
      clear hP hP2 HP
      go_wp2
      go_ret
      exact ⟨congrArg (fun r => Ending.returned (.bool r)) HP2.out, rfl⟩

set_option maxRecDepth 100000 in
set_option maxHeartbeats 2000000 in
theorem uk6 (s : ByteArray) (hs : s.size ≤ 4096) (h0 : 0 < s.size) (hm : (bt s 0 == 45) = false) (hp : (bt s 0 == 43) = false) (h2 : 2 ≤ s.size) (hc : (bt s 0 == 48) = true) (hlb : (lowI (bt s 1) == 98) = false) (hlo : (lowI (bt s 1) == 111) = false) (hl : (lowI (bt s 1) == 120) = false) (w : World) :
    Calls Tryz.prog 121 #[.string s] w fun e w' => e = .returned (.bool (uGo false 94 (bytesOf s))) ∧ w = w' := by
  obtain ⟨R, hR⟩ : ∃ R, uGo false 94 (bytesOf s) = R := ⟨_, rfl⟩
  rw [hR]
  have HR := Aside0.mk hR
  clear hR
  have hx : ∀ h : 0 < s.size, ((s[0]'h).toNat : Int) = bt s 0 := bt_at s 0
  have q0 := eq_true (show 0 < s.size by omega)
  have hx1 : ∀ h : 1 < s.size, ((s[1]'h).toNat : Int) = bt s 1 := bt_at s 1
  have q1 := eq_true (show 1 < s.size by omega)
  go_enter Tryz.func121, Tryz.ntmps121
  go_wp2_with (go_at_call 120; (with_reducible refine (lower_any (bt s 1) _).mono ?_); rintro e w' ⟨rfl, rfl⟩)
  clear hx q0 hx1 q1 hm hp hc hlb hlo hl
  go_loop [3, 4] (fun u i => ∃ (k : Nat) (x : Int), k ≤ s.size ∧ u = .int .i32 x ∧ i = .int .i64 k ∧ Aside0 (uGo false x ((bytesOf s).drop k) = R)) (fun _ i => s.size - (intOf i).toNat)
  case atStart => exact ⟨0, 94, by omega, rfl, rfl, HR⟩
  case round =>
    obtain ⟨k, x, hk, rfl, rfl, HP⟩ := hrel
    by_cases hlt : k < s.size
    · have hP := HP.out
      rw [drop_bytes s k hlt, uGo_cons] at hP
      have hb := bt_range s k
      have hxk : ∀ h : k < s.size, ((s[k]'h).toNat : Int) = bt s k := bt_at s k
      have qk := eq_true hlt
      clear HP
      obtain ⟨c, hc⟩ : ∃ c, bt s k = c := ⟨_, rfl⟩
      rw [hc] at hxk hP hb
      clear hc
      by_cases hd : 48 ≤ c ∧ c ≤ 57
      · rw [show uStep false x c = some 48 by unfold uStep; rw [if_pos hd]] at hP
        obtain ⟨d1, d2⟩ := hd
        have HP := Aside0.mk hP
        clear hP
        go_wp2
        go_round
        case rel => exact ⟨k + 1, 48, by omega, rfl, by go_num, HP⟩
        case measure => simp [intOf]; omega
      · have d0 : c < 48 ∨ 57 < c := by omega
        have hq2 : ¬ (false = true ∧ 97 ≤ lowI c ∧ lowI c ≤ 102) := fun h => absurd h.1 (by simp)
        by_cases c95 : c = 95
        · subst c95
          by_cases x48 : x = 48
          · rw [show uStep false x 95 = some 95 by unfold uStep; rw [if_neg hd, if_neg hq2, if_pos rfl, if_pos x48]] at hP
            have x48c : (x != 48) = false := by rw [x48]; rfl
            have x48b : (x == 48) = true := by rw [x48]; rfl
            have HP := Aside0.mk hP
            clear hP hd hq2 x48 
            clear d0
            skip
            all_goals
              go_wp2
              go_round
              case rel => exact ⟨k + 1, 95, by omega, rfl, by go_num, HP⟩
              case measure => simp [intOf]; omega
          · rw [show uStep false x 95 = none by unfold uStep; rw [if_neg hd, if_neg hq2, if_pos rfl, if_neg x48]] at hP
            have x48b : (x == 48) = false := beq_eq_false_iff_ne.mpr x48
            have x48c : (x != 48) = true := by simp [bne, x48b]
            have HP := Aside0.mk hP
            clear hP hd hq2 x48 
            clear d0
            skip
            all_goals
              go_wp2
              go_ret
              exact ⟨congrArg (fun r => Ending.returned (.bool r)) HP.out, rfl⟩
        · have c95b : (c == 95) = false := beq_eq_false_iff_ne.mpr c95
          by_cases x95 : x = 95
          · rw [show uStep false x c = none by unfold uStep; rw [if_neg hd, if_neg hq2, if_neg c95, if_pos x95]] at hP
            subst x95
            have HP := Aside0.mk hP
            clear hP hd hq2 c95 
            rcases d0 with d0 | d0
            all_goals
              go_wp2
              go_ret
              exact ⟨congrArg (fun r => Ending.returned (.bool r)) HP.out, rfl⟩
          · rw [show uStep false x c = some 33 by unfold uStep; rw [if_neg hd, if_neg hq2, if_neg c95, if_neg x95]] at hP
            have x95b : (x == 95) = false := beq_eq_false_iff_ne.mpr x95
            have HP := Aside0.mk hP
            clear hP hd hq2 x95 c95 
            rcases d0 with d0 | d0
            all_goals
              go_wp2
              go_round
              case rel => exact ⟨k + 1, 33, by omega, rfl, by go_num, HP⟩
              case measure => simp [intOf]; omega
    · have hP := HP.out
      rw [drop_bytes_end s k hlt] at hP
      have hP2 : (x != 95) = R := hP
      have hk2 : s.size ≤ k := by omega
      have HP2 := Aside0.mk hP2
      clear hP hP2 HP
      go_wp2
      go_ret
      exact ⟨congrArg (fun r => Ending.returned (.bool r)) HP2.out, rfl⟩

theorem uok_same (s : ByteArray) (hs : s.size ≤ 4096) (h0 : 0 < s.size) (hm : (bt s 0 == 45) = false) (hp : (bt s 0 == 43) = false) (w : World) : Calls Tryz.prog 121 #[.string s] w fun e w' => e = .returned (.bool (uOK s)) ∧ w = w' := by
  unfold uOK
  by_cases h2 : 2 ≤ s.size
  · cases hc : (bt s 0 == 48)
    · rw [if_neg (by simp)]; exact uk2 s hs h0 hm hp h2 hc w
    · cases hb : (lowI (bt s 1) == 98)
      · cases ho : (lowI (bt s 1) == 111)
        · cases hx : (lowI (bt s 1) == 120)
          · rw [if_neg (by simp)]; exact uk6 s hs h0 hm hp h2 hc hb ho hx w
          · rw [if_pos ⟨h2, rfl, Or.inr (Or.inr rfl)⟩]; exact uk5 s hs h0 hm hp h2 hc hb ho hx w
        · rw [if_pos ⟨h2, rfl, Or.inr (Or.inl rfl)⟩]
          have he : (lowI (bt s 1) == 120) = false := by have := eq_of_beq ho; rw [this]; rfl
          rw [he]; exact uk4 s hs h0 hm hp h2 hc hb ho w
      · rw [if_pos ⟨h2, rfl, Or.inl rfl⟩]
        have he : (lowI (bt s 1) == 120) = false := by have := eq_of_beq hb; rw [this]; rfl
        rw [he]; exact uk3 s hs h0 hm hp h2 hc hb w
  · rw [if_neg (fun h => h2 h.1)]; exact uk1 s hs h0 hm hp (by omega) w
theorem uok_any (s : ByteArray) (hs : s.size ≤ 4096) (h0 : 0 < s.size) (hm : (bt s 0 == 45) = false) (hp : (bt s 0 == 43) = false) (w : World) : Calls Tryz.prog 121 #[.string s] w fun e w' => e = .returned (.bool (uOK s)) ∧ Drawn0 w w' :=
  (uok_same s hs h0 hm hp w).mono fun e w' h => ⟨h.1, h.2 ▸ Drawn0.refl _⟩
theorem uok_mono (s : ByteArray) (hs : s.size ≤ 4096) (h0 : 0 < s.size) (hm : (bt s 0 == 45) = false) (hp : (bt s 0 == 43) = false) (r : Bool) (h : uOK s = r) (w : World) : Calls Tryz.prog 121 #[.string s] w fun e w' => e = .returned (.bool r) ∧ Drawn0 w w' := h ▸ uok_any s hs h0 hm hp w
end Go.Proofs.YtnhonclncjgjoaaGreatDoor

namespace Go.Proofs.YtnhonclncjgjoaaGreatDoor
open Go Go.RowKit Go.Proofs.YtnhonclncjgjoaaGreatDoorW.PrintWords
set_option linter.unusedVariables false
set_option linter.unusedSimpArgs false

inductive PU where
  | syn | rng | ok (n : Int) (u : Bool)

def dig36 (c : Int) : Int := if 48 ≤ c ∧ c ≤ 57 then c - 48 else if 97 ≤ lowI c ∧ lowI c ≤ 122 then lowI c - 97 + 10 else 99

def puGo (base cut : Int) : List Int → Int → Bool → PU
  | [], n, u => .ok n u
  | c :: t, n, u => if c = 95 then puGo base cut t n true else if base ≤ dig36 c then .syn else if cut ≤ n then .rng else if 18446744073709551616 ≤ n * base + dig36 c then .rng else puGo base cut t (n * base + dig36 c) u

def puVal (s0 : ByteArray) : PU → Value
  | .syn => .tuple #[.int .u64 0, .iface 157 (.int .i64 2)]
  | .rng => .tuple #[.int .u64 18446744073709551615, .iface 157 (.int .i64 1)]
  | .ok n u => if u && !uOK s0 then .tuple #[.int .u64 0, .iface 157 (.int .i64 2)] else .tuple #[.int .u64 n, .nilIface]

def M64 : Int := 18446744073709551615
theorem m64_eq : IntKind.u64.wrap (IntKind.u64.wrap 18446744073709551616 - 1) = M64 := by decide
theorem wrap_over (x : Int) (h0 : 18446744073709551616 ≤ x) (h1 : x < 36893488147419103232) : IntKind.u64.wrap x = x - 18446744073709551616 := by
  rw [IntKind.wrap_u64]; omega

set_option maxRecDepth 100000 in
set_option maxHeartbeats 1000000 in
theorem pu10 (s : ByteArray) (hs : s.size ≤ 4096) (h0 : 0 < s.size) (hm : (bt s 0 == 45) = false) (hp : (bt s 0 == 43) = false) (hc : (bt s 0 == 48) = false) (w : World) :
    Calls Tryz.prog 77 #[.string s, .int .i64 0, .int .i64 64] w fun e w' => e = .returned (puVal s (puGo 10 1844674407370955162 (bytesOf s) 0 false)) ∧ Below w.heap.size w w' := by
  obtain ⟨R, hR⟩ : ∃ R, puGo 10 1844674407370955162 (bytesOf s) 0 false = R := ⟨_, rfl⟩
  rw [hR]
  have HR := Aside0.mk hR
  clear hR
  have HU := Aside0.mk (fun r hr w => uok_mono s hs (by omega) (by first | exact hm | (have := eq_of_beq hc; rw [this]; rfl)) (by first | exact hp | (have := eq_of_beq hc; rw [this]; rfl)) r hr w)
  have kb := fun W => print_bytes (P := Tryz.prog) 9 191 5 Tryz.underlying9 Tryz.underlying191 Tryz.underlying5 s W
  have hx : ∀ h : 0 < s.size, ((s[0]'h).toNat : Int) = bt s 0 := bt_at s 0
  have q0 := eq_true (show 0 < s.size by omega)
  have hne : (s.toList.isEmpty) = false := not_empty (by omega)
  go_enter Tryz.func77, Tryz.ntmps77
  go_wp2
  clear kb hx q0 hne hc hm hp
  rw [m64_eq]
  go_loop [12, 13, 101] (fun u n i => ∃ (k : Nat) (m : Int) (b : Bool), k ≤ s.size ∧ u = .bool b ∧ n = .int .u64 m ∧ i = .int .i64 k ∧ 0 ≤ m ∧ m < 18446744073709551616 ∧ Aside0 (puGo 10 1844674407370955162 ((bytesOf s).drop k) m b = R)) (fun _ _ i => s.size - (intOf i).toNat)
  case atStart => exact ⟨0, 0, false, by omega, rfl, rfl, rfl, by omega, by omega, HR⟩
  case round =>
    obtain ⟨k, m, b, hk, rfl, rfl, rfl, hm0, hm1, HP⟩ := hrel
    by_cases hlt : k < s.size
    · have hcell := bytes_cell w 5 s (by omega) k hlt
      have hP := HP.out
      rw [drop_bytes s k hlt, puGo] at hP
      have hb := bt_range s k
      obtain ⟨c, hc⟩ : ∃ c, bt s k = c := ⟨_, rfl⟩
      rw [hc] at hcell hP hb
      clear hc HP
      have hlr := lowI_range c (by omega) (by omega)
      by_cases c95 : c = 95
      · subst c95
        rw [if_pos rfl] at hP
        have HP := Aside0.mk hP
        clear hP
        go_wp2
        go_round
        case rel => exact ⟨k + 1, m, true, by omega, rfl, rfl, by go_num, hm0, hm1, HP⟩
        case measure => simp [intOf]; omega
      · rw [if_neg c95] at hP
        have c95b : (c == 95) = false := beq_eq_false_iff_ne.mpr c95
        by_cases h2 : 97 ≤ lowI c ∧ lowI c ≤ 122
        · obtain ⟨h3, h4⟩ := h2
          by_cases h1 : 48 ≤ c ∧ c ≤ 57
          · obtain ⟨h5, h6⟩ := h1
            exact absurd h3 (by have := lowI_dig c h5 h6; omega)
          · have hdig : dig36 c = lowI c - 97 + 10 := by unfold dig36; rw [if_neg h1, if_pos ⟨h3, h4⟩]
            rw [hdig] at hP
            clear hdig
            have h7 : c < 48 ∨ 57 < c := by omega
            clear h1
            by_cases hd : 10 ≤ lowI c - 97 + 10
            · rw [if_pos hd] at hP
              have HP := Aside0.mk hP
              clear hP
              rcases h7 with h7 | h7
              all_goals
                (go_wp2_with (go_at_call 120; (with_reducible refine (lower_any c _).mono ?_); rintro e w' ⟨rfl, rfl⟩)) <;> (go_ret2; exact ⟨by rw [← HP.out]; rfl, bytes_below (Below.refl _ _) (Nat.le_refl _) 5 _⟩)
            · rw [if_neg hd] at hP
              by_cases hn : 1844674407370955162 ≤ m
              · rw [if_pos hn] at hP
                have HP := Aside0.mk hP
                clear hP
                rcases h7 with h7 | h7
                all_goals
                  (go_wp2_with (go_at_call 120; (with_reducible refine (lower_any c _).mono ?_); rintro e w' ⟨rfl, rfl⟩)) <;> (go_ret2; exact ⟨by rw [← HP.out]; rfl, bytes_below (Below.refl _ _) (Nat.le_refl _) 5 _⟩)
              · rw [if_neg hn] at hP
                have hn' : m ≤ 1844674407370955161 := by omega
                by_cases ho : 18446744073709551616 ≤ m * 10 + (lowI c - 97 + 10)
                · rw [if_pos ho] at hP
                  have HP := Aside0.mk hP
                  clear hP
                  obtain ⟨q, hq⟩ : ∃ q, IntKind.u64.wrap (m * 10 + (lowI c - 97 + 10)) = q := ⟨_, rfl⟩
                  have hq1 : q < m * 10 := by rw [← hq, wrap_over _ ho (by omega)]; omega
                  clear ho
                  rcases h7 with h7 | h7
                  all_goals
                    (go_wp2_with (go_at_call 120; (with_reducible refine (lower_any c _).mono ?_); rintro e w' ⟨rfl, rfl⟩)) <;> (go_ret2; exact ⟨by rw [← HP.out]; rfl, bytes_below (Below.refl _ _) (Nat.le_refl _) 5 _⟩)
                · rw [if_neg ho] at hP
                  have HP := Aside0.mk hP
                  clear hP
                  have ho' : m * 10 + (lowI c - 97 + 10) ≤ M64 := by unfold M64; omega
                  have ho2 : m * 10 ≤ m * 10 + (lowI c - 97 + 10) := by omega
                  rcases h7 with h7 | h7
                  all_goals
                    (go_wp2_with (go_at_call 120; (with_reducible refine (lower_any c _).mono ?_); rintro e w' ⟨rfl, rfl⟩)) <;> (go_round; (case rel => exact ⟨k + 1, _, b, by omega, rfl, rfl, by go_num, by omega, by omega, HP⟩); (case measure => simp [intOf]; omega))
        · by_cases h1 : 48 ≤ c ∧ c ≤ 57
          · have hdig : dig36 c = c - 48 := by unfold dig36; rw [if_pos h1]
            obtain ⟨h5, h6⟩ := h1
            rw [hdig] at hP
            clear hdig
            by_cases hd : 10 ≤ c - 48
            · rw [if_pos hd] at hP
              have HP := Aside0.mk hP
              clear hP
              go_wp2
              go_ret2
              exact ⟨by rw [← HP.out]; rfl, bytes_below (Below.refl _ _) (Nat.le_refl _) 5 _⟩
            · rw [if_neg hd] at hP
              by_cases hn : 1844674407370955162 ≤ m
              · rw [if_pos hn] at hP
                have HP := Aside0.mk hP
                clear hP
                go_wp2
                go_ret2
                exact ⟨by rw [← HP.out]; rfl, bytes_below (Below.refl _ _) (Nat.le_refl _) 5 _⟩
              · rw [if_neg hn] at hP
                have hn' : m ≤ 1844674407370955161 := by omega
                by_cases ho : 18446744073709551616 ≤ m * 10 + (c - 48)
                · rw [if_pos ho] at hP
                  have HP := Aside0.mk hP
                  clear hP
                  obtain ⟨q, hq⟩ : ∃ q, IntKind.u64.wrap (m * 10 + (c - 48)) = q := ⟨_, rfl⟩
                  have hq1 : q < m * 10 := by rw [← hq, wrap_over _ ho (by omega)]; omega
                  clear ho
                  go_wp2
                  go_ret2
                  exact ⟨by rw [← HP.out]; rfl, bytes_below (Below.refl _ _) (Nat.le_refl _) 5 _⟩
                · rw [if_neg ho] at hP
                  have HP := Aside0.mk hP
                  clear hP
                  have ho' : m * 10 + (c - 48) ≤ M64 := by unfold M64; omega
                  have ho2 : m * 10 ≤ m * 10 + (c - 48) := by omega
                  go_wp2
                  go_round
                  case rel => exact ⟨k + 1, _, b, by omega, rfl, rfl, by go_num, by omega, by omega, HP⟩
                  case measure => simp [intOf]; omega
          · have hdig : dig36 c = 99 := by unfold dig36; rw [if_neg h1, if_neg h2]
            rw [hdig, if_pos (by omega)] at hP
            have HP := Aside0.mk hP
            clear hP hdig
            have h7 : c < 48 ∨ 57 < c := by omega
            have h8 : lowI c < 97 ∨ 122 < lowI c := by omega
            clear h1 h2
            rcases h7 with h7 | h7 <;> rcases h8 with h8 | h8
            all_goals
              (go_wp2_with (go_at_call 120; (with_reducible refine (lower_any c _).mono ?_); rintro e w' ⟨rfl, rfl⟩)) <;> (go_ret2; exact ⟨by rw [← HP.out]; rfl, bytes_below (Below.refl _ _) (Nat.le_refl _) 5 _⟩)
    · have hP := HP.out
      rw [drop_bytes_end s k hlt, puGo] at hP
      have HP := Aside0.mk hP
      clear hP
      cases b with
      | false =>
        go_wp2
        go_ret2
        exact ⟨by rw [← HP.out]; rfl, bytes_below (Below.refl _ _) (Nat.le_refl _) 5 _⟩
      | true =>
        cases hu : uOK s with
        | true =>
          have hum := fun w => HU.out true hu w
          go_wp2_with (go_at_call 121; (with_reducible refine (hum _).mono ?_); rintro e w' ⟨rfl, ⟨nd, rfl⟩⟩)
          go_ret2
          exact ⟨by rw [← HP.out]; simp [puVal, hu], pw_below_drewN (bytes_below (Below.refl _ _) (Nat.le_refl _) 5 _) _⟩
        | false =>
          have hum := fun w => HU.out false hu w
          go_wp2_with (go_at_call 121; (with_reducible refine (hum _).mono ?_); rintro e w' ⟨rfl, ⟨nd, rfl⟩⟩)
          go_ret2
          exact ⟨by rw [← HP.out]; simp [puVal, hu], pw_below_drewN (bytes_below (Below.refl _ _) (Nat.le_refl _) 5 _) _⟩

set_option maxRecDepth 100000 in
set_option maxHeartbeats 1000000 in
theorem pu2 (s : ByteArray) (hs : s.size ≤ 4096) (S : ByteArray) (hE : s.extract 2 s.size = S) (hSs : S.size ≤ 4096) (h0 : 3 ≤ s.size) (hc : (bt s 0 == 48) = true) (hl : (lowI (bt s 1) == 98) = true) (w : World) :
    Calls Tryz.prog 77 #[.string s, .int .i64 0, .int .i64 64] w fun e w' => e = .returned (puVal s (puGo 2 9223372036854775808 (bytesOf S) 0 false)) ∧ Below w.heap.size w w' := by
  obtain ⟨R, hR⟩ : ∃ R, puGo 2 9223372036854775808 (bytesOf S) 0 false = R := ⟨_, rfl⟩
  rw [hR]
  have HR := Aside0.mk hR
  clear hR
  have HU := Aside0.mk (fun r hr w => uok_mono s hs (by omega) (by first | exact hm | (have := eq_of_beq hc; rw [this]; rfl)) (by first | exact hp | (have := eq_of_beq hc; rw [this]; rfl)) r hr w)
  have kb := fun W => print_bytes (P := Tryz.prog) 9 191 5 Tryz.underlying9 Tryz.underlying191 Tryz.underlying5 S W
  have hx : ∀ h : 0 < s.size, ((s[0]'h).toNat : Int) = bt s 0 := bt_at s 0
  have q0 := eq_true (show 0 < s.size by omega)
  have hne : (s.toList.isEmpty) = false := not_empty (by omega)
  have hx1 : ∀ h : 1 < s.size, ((s[1]'h).toNat : Int) = bt s 1 := bt_at s 1
  have q1 := eq_true (show 1 < s.size by omega)
  go_enter Tryz.func77, Tryz.ntmps77
  go_wp2_with (go_at_call 120; (with_reducible refine (lower_any (bt s 1) _).mono ?_); rintro e w' ⟨rfl, rfl⟩)
  clear hE kb hx q0 hne hc hx1 q1 hl
  rw [m64_eq]
  go_loop [12, 13, 101] (fun u n i => ∃ (k : Nat) (m : Int) (b : Bool), k ≤ S.size ∧ u = .bool b ∧ n = .int .u64 m ∧ i = .int .i64 k ∧ 0 ≤ m ∧ m < 18446744073709551616 ∧ Aside0 (puGo 2 9223372036854775808 ((bytesOf S).drop k) m b = R)) (fun _ _ i => S.size - (intOf i).toNat)
  case atStart => exact ⟨0, 0, false, by omega, rfl, rfl, rfl, by omega, by omega, HR⟩
  case round =>
    obtain ⟨k, m, b, hk, rfl, rfl, rfl, hm0, hm1, HP⟩ := hrel
    by_cases hlt : k < S.size
    · have hcell := bytes_cell w 5 S (by omega) k hlt
      have hP := HP.out
      rw [drop_bytes S k hlt, puGo] at hP
      have hb := bt_range S k
      obtain ⟨c, hc⟩ : ∃ c, bt S k = c := ⟨_, rfl⟩
      rw [hc] at hcell hP hb
      clear hc HP
      have hlr := lowI_range c (by omega) (by omega)
      by_cases c95 : c = 95
      · subst c95
        rw [if_pos rfl] at hP
        have HP := Aside0.mk hP
        clear hP
        go_wp2
        go_round
        case rel => exact ⟨k + 1, m, true, by omega, rfl, rfl, by go_num, hm0, hm1, HP⟩
        case measure => simp [intOf]; omega
      · rw [if_neg c95] at hP
        have c95b : (c == 95) = false := beq_eq_false_iff_ne.mpr c95
        by_cases h2 : 97 ≤ lowI c ∧ lowI c ≤ 122
        · obtain ⟨h3, h4⟩ := h2
          by_cases h1 : 48 ≤ c ∧ c ≤ 57
          · obtain ⟨h5, h6⟩ := h1
            exact absurd h3 (by have := lowI_dig c h5 h6; omega)
          · have hdig : dig36 c = lowI c - 97 + 10 := by unfold dig36; rw [if_neg h1, if_pos ⟨h3, h4⟩]
            rw [hdig] at hP
            clear hdig
            have h7 : c < 48 ∨ 57 < c := by omega
            clear h1
            by_cases hd : 2 ≤ lowI c - 97 + 10
            · rw [if_pos hd] at hP
              have HP := Aside0.mk hP
              clear hP
              rcases h7 with h7 | h7
              all_goals
                (go_wp2_with (go_at_call 120; (with_reducible refine (lower_any c _).mono ?_); rintro e w' ⟨rfl, rfl⟩)) <;> (go_ret2; exact ⟨by rw [← HP.out]; rfl, bytes_below (Below.refl _ _) (Nat.le_refl _) 5 _⟩)
            · rw [if_neg hd] at hP
              by_cases hn : 9223372036854775808 ≤ m
              · rw [if_pos hn] at hP
                have HP := Aside0.mk hP
                clear hP
                rcases h7 with h7 | h7
                all_goals
                  (go_wp2_with (go_at_call 120; (with_reducible refine (lower_any c _).mono ?_); rintro e w' ⟨rfl, rfl⟩)) <;> (go_ret2; exact ⟨by rw [← HP.out]; rfl, bytes_below (Below.refl _ _) (Nat.le_refl _) 5 _⟩)
              · rw [if_neg hn] at hP
                have hn' : m ≤ 9223372036854775807 := by omega
                by_cases ho : 18446744073709551616 ≤ m * 2 + (lowI c - 97 + 10)
                · rw [if_pos ho] at hP
                  have HP := Aside0.mk hP
                  clear hP
                  obtain ⟨q, hq⟩ : ∃ q, IntKind.u64.wrap (m * 2 + (lowI c - 97 + 10)) = q := ⟨_, rfl⟩
                  have hq1 : q < m * 2 := by rw [← hq, wrap_over _ ho (by omega)]; omega
                  clear ho
                  rcases h7 with h7 | h7
                  all_goals
                    (go_wp2_with (go_at_call 120; (with_reducible refine (lower_any c _).mono ?_); rintro e w' ⟨rfl, rfl⟩)) <;> (go_ret2; exact ⟨by rw [← HP.out]; rfl, bytes_below (Below.refl _ _) (Nat.le_refl _) 5 _⟩)
                · rw [if_neg ho] at hP
                  have HP := Aside0.mk hP
                  clear hP
                  have ho' : m * 2 + (lowI c - 97 + 10) ≤ M64 := by unfold M64; omega
                  have ho2 : m * 2 ≤ m * 2 + (lowI c - 97 + 10) := by omega
                  rcases h7 with h7 | h7
                  all_goals
                    (go_wp2_with (go_at_call 120; (with_reducible refine (lower_any c _).mono ?_); rintro e w' ⟨rfl, rfl⟩)) <;> (go_round; (case rel => exact ⟨k + 1, _, b, by omega, rfl, rfl, by go_num, by omega, by omega, HP⟩); (case measure => simp [intOf]; omega))
        · by_cases h1 : 48 ≤ c ∧ c ≤ 57
          · have hdig : dig36 c = c - 48 := by unfold dig36; rw [if_pos h1]
            obtain ⟨h5, h6⟩ := h1
            rw [hdig] at hP
            clear hdig
            by_cases hd : 2 ≤ c - 48
            · rw [if_pos hd] at hP
              have HP := Aside0.mk hP
              clear hP
              go_wp2
              go_ret2
              exact ⟨by rw [← HP.out]; rfl, bytes_below (Below.refl _ _) (Nat.le_refl _) 5 _⟩
            · rw [if_neg hd] at hP
              by_cases hn : 9223372036854775808 ≤ m
              · rw [if_pos hn] at hP
                have HP := Aside0.mk hP
                clear hP
                go_wp2
                go_ret2
                exact ⟨by rw [← HP.out]; rfl, bytes_below (Below.refl _ _) (Nat.le_refl _) 5 _⟩
              · rw [if_neg hn] at hP
                have hn' : m ≤ 9223372036854775807 := by omega
                by_cases ho : 18446744073709551616 ≤ m * 2 + (c - 48)
                · rw [if_pos ho] at hP
                  have HP := Aside0.mk hP
                  clear hP
                  obtain ⟨q, hq⟩ : ∃ q, IntKind.u64.wrap (m * 2 + (c - 48)) = q := ⟨_, rfl⟩
                  have hq1 : q < m * 2 := by rw [← hq, wrap_over _ ho (by omega)]; omega
                  clear ho
                  go_wp2
                  go_ret2
                  exact ⟨by rw [← HP.out]; rfl, bytes_below (Below.refl _ _) (Nat.le_refl _) 5 _⟩
                · rw [if_neg ho] at hP
                  have HP := Aside0.mk hP
                  clear hP
                  have ho' : m * 2 + (c - 48) ≤ M64 := by unfold M64; omega
                  have ho2 : m * 2 ≤ m * 2 + (c - 48) := by omega
                  go_wp2
                  go_round
                  case rel => exact ⟨k + 1, _, b, by omega, rfl, rfl, by go_num, by omega, by omega, HP⟩
                  case measure => simp [intOf]; omega
          · have hdig : dig36 c = 99 := by unfold dig36; rw [if_neg h1, if_neg h2]
            rw [hdig, if_pos (by omega)] at hP
            have HP := Aside0.mk hP
            clear hP hdig
            have h7 : c < 48 ∨ 57 < c := by omega
            have h8 : lowI c < 97 ∨ 122 < lowI c := by omega
            clear h1 h2
            rcases h7 with h7 | h7 <;> rcases h8 with h8 | h8
            all_goals
              (go_wp2_with (go_at_call 120; (with_reducible refine (lower_any c _).mono ?_); rintro e w' ⟨rfl, rfl⟩)) <;> (go_ret2; exact ⟨by rw [← HP.out]; rfl, bytes_below (Below.refl _ _) (Nat.le_refl _) 5 _⟩)
    · have hP := HP.out
      rw [drop_bytes_end S k hlt, puGo] at hP
      have HP := Aside0.mk hP
      clear hP
      cases b with
      | false =>
        go_wp2
        go_ret2
        exact ⟨by rw [← HP.out]; rfl, bytes_below (Below.refl _ _) (Nat.le_refl _) 5 _⟩
      | true =>
        cases hu : uOK s with
        | true =>
          have hum := fun w => HU.out true hu w
          go_wp2_with (go_at_call 121; (with_reducible refine (hum _).mono ?_); rintro e w' ⟨rfl, ⟨nd, rfl⟩⟩)
          go_ret2
          exact ⟨by rw [← HP.out]; simp [puVal, hu], pw_below_drewN (bytes_below (Below.refl _ _) (Nat.le_refl _) 5 _) _⟩
        | false =>
          have hum := fun w => HU.out false hu w
          go_wp2_with (go_at_call 121; (with_reducible refine (hum _).mono ?_); rintro e w' ⟨rfl, ⟨nd, rfl⟩⟩)
          go_ret2
          exact ⟨by rw [← HP.out]; simp [puVal, hu], pw_below_drewN (bytes_below (Below.refl _ _) (Nat.le_refl _) 5 _) _⟩

set_option maxRecDepth 100000 in
set_option maxHeartbeats 1000000 in
theorem pu8 (s : ByteArray) (hs : s.size ≤ 4096) (S : ByteArray) (hE : s.extract 2 s.size = S) (hSs : S.size ≤ 4096) (h0 : 3 ≤ s.size) (hc : (bt s 0 == 48) = true) (hl98 : (lowI (bt s 1) == 98) = false) (hl : (lowI (bt s 1) == 111) = true) (w : World) :
    Calls Tryz.prog 77 #[.string s, .int .i64 0, .int .i64 64] w fun e w' => e = .returned (puVal s (puGo 8 2305843009213693952 (bytesOf S) 0 false)) ∧ Below w.heap.size w w' := by
  obtain ⟨R, hR⟩ : ∃ R, puGo 8 2305843009213693952 (bytesOf S) 0 false = R := ⟨_, rfl⟩
  rw [hR]
  have HR := Aside0.mk hR
  clear hR
  have HU := Aside0.mk (fun r hr w => uok_mono s hs (by omega) (by first | exact hm | (have := eq_of_beq hc; rw [this]; rfl)) (by first | exact hp | (have := eq_of_beq hc; rw [this]; rfl)) r hr w)
  have kb := fun W => print_bytes (P := Tryz.prog) 9 191 5 Tryz.underlying9 Tryz.underlying191 Tryz.underlying5 S W
  have hx : ∀ h : 0 < s.size, ((s[0]'h).toNat : Int) = bt s 0 := bt_at s 0
  have q0 := eq_true (show 0 < s.size by omega)
  have hne : (s.toList.isEmpty) = false := not_empty (by omega)
  have hx1 : ∀ h : 1 < s.size, ((s[1]'h).toNat : Int) = bt s 1 := bt_at s 1
  have q1 := eq_true (show 1 < s.size by omega)
  go_enter Tryz.func77, Tryz.ntmps77
  go_wp2_with (go_at_call 120; (with_reducible refine (lower_any (bt s 1) _).mono ?_); rintro e w' ⟨rfl, rfl⟩)
  clear hE kb hx q0 hne hc hx1 q1 hl hl98
  rw [m64_eq]
  go_loop [12, 13, 101] (fun u n i => ∃ (k : Nat) (m : Int) (b : Bool), k ≤ S.size ∧ u = .bool b ∧ n = .int .u64 m ∧ i = .int .i64 k ∧ 0 ≤ m ∧ m < 18446744073709551616 ∧ Aside0 (puGo 8 2305843009213693952 ((bytesOf S).drop k) m b = R)) (fun _ _ i => S.size - (intOf i).toNat)
  case atStart => exact ⟨0, 0, false, by omega, rfl, rfl, rfl, by omega, by omega, HR⟩
  case round =>
    obtain ⟨k, m, b, hk, rfl, rfl, rfl, hm0, hm1, HP⟩ := hrel
    by_cases hlt : k < S.size
    · have hcell := bytes_cell w 5 S (by omega) k hlt
      have hP := HP.out
      rw [drop_bytes S k hlt, puGo] at hP
      have hb := bt_range S k
      obtain ⟨c, hc⟩ : ∃ c, bt S k = c := ⟨_, rfl⟩
      rw [hc] at hcell hP hb
      clear hc HP
      have hlr := lowI_range c (by omega) (by omega)
      by_cases c95 : c = 95
      · subst c95
        rw [if_pos rfl] at hP
        have HP := Aside0.mk hP
        clear hP
        go_wp2
        go_round
        case rel => exact ⟨k + 1, m, true, by omega, rfl, rfl, by go_num, hm0, hm1, HP⟩
        case measure => simp [intOf]; omega
      · rw [if_neg c95] at hP
        have c95b : (c == 95) = false := beq_eq_false_iff_ne.mpr c95
        by_cases h2 : 97 ≤ lowI c ∧ lowI c ≤ 122
        · obtain ⟨h3, h4⟩ := h2
          by_cases h1 : 48 ≤ c ∧ c ≤ 57
          · obtain ⟨h5, h6⟩ := h1
            exact absurd h3 (by have := lowI_dig c h5 h6; omega)
          · have hdig : dig36 c = lowI c - 97 + 10 := by unfold dig36; rw [if_neg h1, if_pos ⟨h3, h4⟩]
            rw [hdig] at hP
            clear hdig
            have h7 : c < 48 ∨ 57 < c := by omega
            clear h1
            by_cases hd : 8 ≤ lowI c - 97 + 10
            · rw [if_pos hd] at hP
              have HP := Aside0.mk hP
              clear hP
              rcases h7 with h7 | h7
              all_goals
                (go_wp2_with (go_at_call 120; (with_reducible refine (lower_any c _).mono ?_); rintro e w' ⟨rfl, rfl⟩)) <;> (go_ret2; exact ⟨by rw [← HP.out]; rfl, bytes_below (Below.refl _ _) (Nat.le_refl _) 5 _⟩)
            · rw [if_neg hd] at hP
              by_cases hn : 2305843009213693952 ≤ m
              · rw [if_pos hn] at hP
                have HP := Aside0.mk hP
                clear hP
                rcases h7 with h7 | h7
                all_goals
                  (go_wp2_with (go_at_call 120; (with_reducible refine (lower_any c _).mono ?_); rintro e w' ⟨rfl, rfl⟩)) <;> (go_ret2; exact ⟨by rw [← HP.out]; rfl, bytes_below (Below.refl _ _) (Nat.le_refl _) 5 _⟩)
              · rw [if_neg hn] at hP
                have hn' : m ≤ 2305843009213693951 := by omega
                by_cases ho : 18446744073709551616 ≤ m * 8 + (lowI c - 97 + 10)
                · rw [if_pos ho] at hP
                  have HP := Aside0.mk hP
                  clear hP
                  obtain ⟨q, hq⟩ : ∃ q, IntKind.u64.wrap (m * 8 + (lowI c - 97 + 10)) = q := ⟨_, rfl⟩
                  have hq1 : q < m * 8 := by rw [← hq, wrap_over _ ho (by omega)]; omega
                  clear ho
                  rcases h7 with h7 | h7
                  all_goals
                    (go_wp2_with (go_at_call 120; (with_reducible refine (lower_any c _).mono ?_); rintro e w' ⟨rfl, rfl⟩)) <;> (go_ret2; exact ⟨by rw [← HP.out]; rfl, bytes_below (Below.refl _ _) (Nat.le_refl _) 5 _⟩)
                · rw [if_neg ho] at hP
                  have HP := Aside0.mk hP
                  clear hP
                  have ho' : m * 8 + (lowI c - 97 + 10) ≤ M64 := by unfold M64; omega
                  have ho2 : m * 8 ≤ m * 8 + (lowI c - 97 + 10) := by omega
                  rcases h7 with h7 | h7
                  all_goals
                    (go_wp2_with (go_at_call 120; (with_reducible refine (lower_any c _).mono ?_); rintro e w' ⟨rfl, rfl⟩)) <;> (go_round; (case rel => exact ⟨k + 1, _, b, by omega, rfl, rfl, by go_num, by omega, by omega, HP⟩); (case measure => simp [intOf]; omega))
        · by_cases h1 : 48 ≤ c ∧ c ≤ 57
          · have hdig : dig36 c = c - 48 := by unfold dig36; rw [if_pos h1]
            obtain ⟨h5, h6⟩ := h1
            rw [hdig] at hP
            clear hdig
            by_cases hd : 8 ≤ c - 48
            · rw [if_pos hd] at hP
              have HP := Aside0.mk hP
              clear hP
              go_wp2
              go_ret2
              exact ⟨by rw [← HP.out]; rfl, bytes_below (Below.refl _ _) (Nat.le_refl _) 5 _⟩
            · rw [if_neg hd] at hP
              by_cases hn : 2305843009213693952 ≤ m
              · rw [if_pos hn] at hP
                have HP := Aside0.mk hP
                clear hP
                go_wp2
                go_ret2
                exact ⟨by rw [← HP.out]; rfl, bytes_below (Below.refl _ _) (Nat.le_refl _) 5 _⟩
              · rw [if_neg hn] at hP
                have hn' : m ≤ 2305843009213693951 := by omega
                by_cases ho : 18446744073709551616 ≤ m * 8 + (c - 48)
                · rw [if_pos ho] at hP
                  have HP := Aside0.mk hP
                  clear hP
                  obtain ⟨q, hq⟩ : ∃ q, IntKind.u64.wrap (m * 8 + (c - 48)) = q := ⟨_, rfl⟩
                  have hq1 : q < m * 8 := by rw [← hq, wrap_over _ ho (by omega)]; omega
                  clear ho
                  go_wp2
                  go_ret2
                  exact ⟨by rw [← HP.out]; rfl, bytes_below (Below.refl _ _) (Nat.le_refl _) 5 _⟩
                · rw [if_neg ho] at hP
                  have HP := Aside0.mk hP
                  clear hP
                  have ho' : m * 8 + (c - 48) ≤ M64 := by unfold M64; omega
                  have ho2 : m * 8 ≤ m * 8 + (c - 48) := by omega
                  go_wp2
                  go_round
                  case rel => exact ⟨k + 1, _, b, by omega, rfl, rfl, by go_num, by omega, by omega, HP⟩
                  case measure => simp [intOf]; omega
          · have hdig : dig36 c = 99 := by unfold dig36; rw [if_neg h1, if_neg h2]
            rw [hdig, if_pos (by omega)] at hP
            have HP := Aside0.mk hP
            clear hP hdig
            have h7 : c < 48 ∨ 57 < c := by omega
            have h8 : lowI c < 97 ∨ 122 < lowI c := by omega
            clear h1 h2
            rcases h7 with h7 | h7 <;> rcases h8 with h8 | h8
            all_goals
              (go_wp2_with (go_at_call 120; (with_reducible refine (lower_any c _).mono ?_); rintro e w' ⟨rfl, rfl⟩)) <;> (go_ret2; exact ⟨by rw [← HP.out]; rfl, bytes_below (Below.refl _ _) (Nat.le_refl _) 5 _⟩)
    · have hP := HP.out
      rw [drop_bytes_end S k hlt, puGo] at hP
      have HP := Aside0.mk hP
      clear hP
      cases b with
      | false =>
        go_wp2
        go_ret2
        exact ⟨by rw [← HP.out]; rfl, bytes_below (Below.refl _ _) (Nat.le_refl _) 5 _⟩
      | true =>
        cases hu : uOK s with
        | true =>
          have hum := fun w => HU.out true hu w
          go_wp2_with (go_at_call 121; (with_reducible refine (hum _).mono ?_); rintro e w' ⟨rfl, ⟨nd, rfl⟩⟩)
          go_ret2
          exact ⟨by rw [← HP.out]; simp [puVal, hu], pw_below_drewN (bytes_below (Below.refl _ _) (Nat.le_refl _) 5 _) _⟩
        | false =>
          have hum := fun w => HU.out false hu w
          go_wp2_with (go_at_call 121; (with_reducible refine (hum _).mono ?_); rintro e w' ⟨rfl, ⟨nd, rfl⟩⟩)
          go_ret2
          exact ⟨by rw [← HP.out]; simp [puVal, hu], pw_below_drewN (bytes_below (Below.refl _ _) (Nat.le_refl _) 5 _) _⟩

set_option maxRecDepth 100000 in
set_option maxHeartbeats 1000000 in
theorem pu16 (s : ByteArray) (hs : s.size ≤ 4096) (S : ByteArray) (hE : s.extract 2 s.size = S) (hSs : S.size ≤ 4096) (h0 : 3 ≤ s.size) (hc : (bt s 0 == 48) = true) (hl98 : (lowI (bt s 1) == 98) = false) (hl111 : (lowI (bt s 1) == 111) = false) (hl : (lowI (bt s 1) == 120) = true) (w : World) :
    Calls Tryz.prog 77 #[.string s, .int .i64 0, .int .i64 64] w fun e w' => e = .returned (puVal s (puGo 16 1152921504606846976 (bytesOf S) 0 false)) ∧ Below w.heap.size w w' := by
  obtain ⟨R, hR⟩ : ∃ R, puGo 16 1152921504606846976 (bytesOf S) 0 false = R := ⟨_, rfl⟩
  rw [hR]
  have HR := Aside0.mk hR
  clear hR
  have HU := Aside0.mk (fun r hr w => uok_mono s hs (by omega) (by first | exact hm | (have := eq_of_beq hc; rw [this]; rfl)) (by first | exact hp | (have := eq_of_beq hc; rw [this]; rfl)) r hr w)
  have kb := fun W => print_bytes (P := Tryz.prog) 9 191 5 Tryz.underlying9 Tryz.underlying191 Tryz.underlying5 S W
  have hx : ∀ h : 0 < s.size, ((s[0]'h).toNat : Int) = bt s 0 := bt_at s 0
  have q0 := eq_true (show 0 < s.size by omega)
  have hne : (s.toList.isEmpty) = false := not_empty (by omega)
  have hx1 : ∀ h : 1 < s.size, ((s[1]'h).toNat : Int) = bt s 1 := bt_at s 1
  have q1 := eq_true (show 1 < s.size by omega)
  go_enter Tryz.func77, Tryz.ntmps77
  go_wp2_with (go_at_call 120; (with_reducible refine (lower_any (bt s 1) _).mono ?_); rintro e w' ⟨rfl, rfl⟩)
  clear hE kb hx q0 hne hc hx1 q1 hl hl98 hl111
  rw [m64_eq]
  go_loop [12, 13, 101] (fun u n i => ∃ (k : Nat) (m : Int) (b : Bool), k ≤ S.size ∧ u = .bool b ∧ n = .int .u64 m ∧ i = .int .i64 k ∧ 0 ≤ m ∧ m < 18446744073709551616 ∧ Aside0 (puGo 16 1152921504606846976 ((bytesOf S).drop k) m b = R)) (fun _ _ i => S.size - (intOf i).toNat)
  case atStart => exact ⟨0, 0, false, by omega, rfl, rfl, rfl, by omega, by omega, HR⟩
  case round =>
    obtain ⟨k, m, b, hk, rfl, rfl, rfl, hm0, hm1, HP⟩ := hrel
    by_cases hlt : k < S.size
    · have hcell := bytes_cell w 5 S (by omega) k hlt
      have hP := HP.out
      rw [drop_bytes S k hlt, puGo] at hP
      have hb := bt_range S k
      obtain ⟨c, hc⟩ : ∃ c, bt S k = c := ⟨_, rfl⟩
      rw [hc] at hcell hP hb
      clear hc HP
      have hlr := lowI_range c (by omega) (by omega)
      by_cases c95 : c = 95
      · subst c95
        rw [if_pos rfl] at hP
        have HP := Aside0.mk hP
        clear hP
        go_wp2
        go_round
        case rel => exact ⟨k + 1, m, true, by omega, rfl, rfl, by go_num, hm0, hm1, HP⟩
        case measure => simp [intOf]; omega
      · rw [if_neg c95] at hP
        have c95b : (c == 95) = false := beq_eq_false_iff_ne.mpr c95
        by_cases h2 : 97 ≤ lowI c ∧ lowI c ≤ 122
        · obtain ⟨h3, h4⟩ := h2
          by_cases h1 : 48 ≤ c ∧ c ≤ 57
          · obtain ⟨h5, h6⟩ := h1
            exact absurd h3 (by have := lowI_dig c h5 h6; omega)
          · have hdig : dig36 c = lowI c - 97 + 10 := by unfold dig36; rw [if_neg h1, if_pos ⟨h3, h4⟩]
            rw [hdig] at hP
            clear hdig
            have h7 : c < 48 ∨ 57 < c := by omega
            clear h1
            by_cases hd : 16 ≤ lowI c - 97 + 10
            · rw [if_pos hd] at hP
              have HP := Aside0.mk hP
              clear hP
              rcases h7 with h7 | h7
              all_goals
                (go_wp2_with (go_at_call 120; (with_reducible refine (lower_any c _).mono ?_); rintro e w' ⟨rfl, rfl⟩)) <;> (go_ret2; exact ⟨by rw [← HP.out]; rfl, bytes_below (Below.refl _ _) (Nat.le_refl _) 5 _⟩)
            · rw [if_neg hd] at hP
              by_cases hn : 1152921504606846976 ≤ m
              · rw [if_pos hn] at hP
                have HP := Aside0.mk hP
                clear hP
                rcases h7 with h7 | h7
                all_goals
                  (go_wp2_with (go_at_call 120; (with_reducible refine (lower_any c _).mono ?_); rintro e w' ⟨rfl, rfl⟩)) <;> (go_ret2; exact ⟨by rw [← HP.out]; rfl, bytes_below (Below.refl _ _) (Nat.le_refl _) 5 _⟩)
              · rw [if_neg hn] at hP
                have hn' : m ≤ 1152921504606846975 := by omega
                by_cases ho : 18446744073709551616 ≤ m * 16 + (lowI c - 97 + 10)
                · rw [if_pos ho] at hP
                  have HP := Aside0.mk hP
                  clear hP
                  obtain ⟨q, hq⟩ : ∃ q, IntKind.u64.wrap (m * 16 + (lowI c - 97 + 10)) = q := ⟨_, rfl⟩
                  have hq1 : q < m * 16 := by rw [← hq, wrap_over _ ho (by omega)]; omega
                  clear ho
                  rcases h7 with h7 | h7
                  all_goals
                    (go_wp2_with (go_at_call 120; (with_reducible refine (lower_any c _).mono ?_); rintro e w' ⟨rfl, rfl⟩)) <;> (go_ret2; exact ⟨by rw [← HP.out]; rfl, bytes_below (Below.refl _ _) (Nat.le_refl _) 5 _⟩)
                · rw [if_neg ho] at hP
                  have HP := Aside0.mk hP
                  clear hP
                  have ho' : m * 16 + (lowI c - 97 + 10) ≤ M64 := by unfold M64; omega
                  have ho2 : m * 16 ≤ m * 16 + (lowI c - 97 + 10) := by omega
                  rcases h7 with h7 | h7
                  all_goals
                    (go_wp2_with (go_at_call 120; (with_reducible refine (lower_any c _).mono ?_); rintro e w' ⟨rfl, rfl⟩)) <;> (go_round; (case rel => exact ⟨k + 1, _, b, by omega, rfl, rfl, by go_num, by omega, by omega, HP⟩); (case measure => simp [intOf]; omega))
        · by_cases h1 : 48 ≤ c ∧ c ≤ 57
          · have hdig : dig36 c = c - 48 := by unfold dig36; rw [if_pos h1]
            obtain ⟨h5, h6⟩ := h1
            rw [hdig] at hP
            clear hdig
            by_cases hd : 16 ≤ c - 48
            · rw [if_pos hd] at hP
              have HP := Aside0.mk hP
              clear hP
              go_wp2
              go_ret2
              exact ⟨by rw [← HP.out]; rfl, bytes_below (Below.refl _ _) (Nat.le_refl _) 5 _⟩
            · rw [if_neg hd] at hP
              by_cases hn : 1152921504606846976 ≤ m
              · rw [if_pos hn] at hP
                have HP := Aside0.mk hP
                clear hP
                go_wp2
                go_ret2
                exact ⟨by rw [← HP.out]; rfl, bytes_below (Below.refl _ _) (Nat.le_refl _) 5 _⟩
              · rw [if_neg hn] at hP
                have hn' : m ≤ 1152921504606846975 := by omega
                by_cases ho : 18446744073709551616 ≤ m * 16 + (c - 48)
                · rw [if_pos ho] at hP
                  have HP := Aside0.mk hP
                  clear hP
                  obtain ⟨q, hq⟩ : ∃ q, IntKind.u64.wrap (m * 16 + (c - 48)) = q := ⟨_, rfl⟩
                  have hq1 : q < m * 16 := by rw [← hq, wrap_over _ ho (by omega)]; omega
                  clear ho
                  go_wp2
                  go_ret2
                  exact ⟨by rw [← HP.out]; rfl, bytes_below (Below.refl _ _) (Nat.le_refl _) 5 _⟩
                · rw [if_neg ho] at hP
                  have HP := Aside0.mk hP
                  clear hP
                  have ho' : m * 16 + (c - 48) ≤ M64 := by unfold M64; omega
                  have ho2 : m * 16 ≤ m * 16 + (c - 48) := by omega
                  go_wp2
                  go_round
                  case rel => exact ⟨k + 1, _, b, by omega, rfl, rfl, by go_num, by omega, by omega, HP⟩
                  case measure => simp [intOf]; omega
          · have hdig : dig36 c = 99 := by unfold dig36; rw [if_neg h1, if_neg h2]
            rw [hdig, if_pos (by omega)] at hP
            have HP := Aside0.mk hP
            clear hP hdig
            have h7 : c < 48 ∨ 57 < c := by omega
            have h8 : lowI c < 97 ∨ 122 < lowI c := by omega
            clear h1 h2
            rcases h7 with h7 | h7 <;> rcases h8 with h8 | h8
            all_goals
              (go_wp2_with (go_at_call 120; (with_reducible refine (lower_any c _).mono ?_); rintro e w' ⟨rfl, rfl⟩)) <;> (go_ret2; exact ⟨by rw [← HP.out]; rfl, bytes_below (Below.refl _ _) (Nat.le_refl _) 5 _⟩)
    · have hP := HP.out
      rw [drop_bytes_end S k hlt, puGo] at hP
      have HP := Aside0.mk hP
      clear hP
      cases b with
      | false =>
        go_wp2
        go_ret2
        exact ⟨by rw [← HP.out]; rfl, bytes_below (Below.refl _ _) (Nat.le_refl _) 5 _⟩
      | true =>
        cases hu : uOK s with
        | true =>
          have hum := fun w => HU.out true hu w
          go_wp2_with (go_at_call 121; (with_reducible refine (hum _).mono ?_); rintro e w' ⟨rfl, ⟨nd, rfl⟩⟩)
          go_ret2
          exact ⟨by rw [← HP.out]; simp [puVal, hu], pw_below_drewN (bytes_below (Below.refl _ _) (Nat.le_refl _) 5 _) _⟩
        | false =>
          have hum := fun w => HU.out false hu w
          go_wp2_with (go_at_call 121; (with_reducible refine (hum _).mono ?_); rintro e w' ⟨rfl, ⟨nd, rfl⟩⟩)
          go_ret2
          exact ⟨by rw [← HP.out]; simp [puVal, hu], pw_below_drewN (bytes_below (Below.refl _ _) (Nat.le_refl _) 5 _) _⟩

set_option maxRecDepth 100000 in
set_option maxHeartbeats 1000000 in
theorem pu8s (s : ByteArray) (hs : s.size ≤ 4096) (S : ByteArray) (hE : s.extract 1 s.size = S) (hSs : S.size ≤ 4096) (h0 : 0 < s.size) (h3 : s.size < 3) (hc : (bt s 0 == 48) = true) (w : World) :
    Calls Tryz.prog 77 #[.string s, .int .i64 0, .int .i64 64] w fun e w' => e = .returned (puVal s (puGo 8 2305843009213693952 (bytesOf S) 0 false)) ∧ Below w.heap.size w w' := by
  obtain ⟨R, hR⟩ : ∃ R, puGo 8 2305843009213693952 (bytesOf S) 0 false = R := ⟨_, rfl⟩
  rw [hR]
  have HR := Aside0.mk hR
  clear hR
  have HU := Aside0.mk (fun r hr w => uok_mono s hs (by omega) (by first | exact hm | (have := eq_of_beq hc; rw [this]; rfl)) (by first | exact hp | (have := eq_of_beq hc; rw [this]; rfl)) r hr w)
  have kb := fun W => print_bytes (P := Tryz.prog) 9 191 5 Tryz.underlying9 Tryz.underlying191 Tryz.underlying5 S W
  have hx : ∀ h : 0 < s.size, ((s[0]'h).toNat : Int) = bt s 0 := bt_at s 0
  have q0 := eq_true (show 0 < s.size by omega)
  have hne : (s.toList.isEmpty) = false := not_empty (by omega)
  go_enter Tryz.func77, Tryz.ntmps77
  go_wp2
  clear hE kb hx q0 hne hc
  rw [m64_eq]
  go_loop [12, 13, 101] (fun u n i => ∃ (k : Nat) (m : Int) (b : Bool), k ≤ S.size ∧ u = .bool b ∧ n = .int .u64 m ∧ i = .int .i64 k ∧ 0 ≤ m ∧ m < 18446744073709551616 ∧ Aside0 (puGo 8 2305843009213693952 ((bytesOf S).drop k) m b = R)) (fun _ _ i => S.size - (intOf i).toNat)
  case atStart => exact ⟨0, 0, false, by omega, rfl, rfl, rfl, by omega, by omega, HR⟩
  case round =>
    obtain ⟨k, m, b, hk, rfl, rfl, rfl, hm0, hm1, HP⟩ := hrel
    by_cases hlt : k < S.size
    · have hcell := bytes_cell w 5 S (by omega) k hlt
      have hP := HP.out
      rw [drop_bytes S k hlt, puGo] at hP
      have hb := bt_range S k
      obtain ⟨c, hc⟩ : ∃ c, bt S k = c := ⟨_, rfl⟩
      rw [hc] at hcell hP hb
      clear hc HP
      have hlr := lowI_range c (by omega) (by omega)
      by_cases c95 : c = 95
      · subst c95
        rw [if_pos rfl] at hP
        have HP := Aside0.mk hP
        clear hP
        go_wp2
        go_round
        case rel => exact ⟨k + 1, m, true, by omega, rfl, rfl, by go_num, hm0, hm1, HP⟩
        case measure => simp [intOf]; omega
      · rw [if_neg c95] at hP
        have c95b : (c == 95) = false := beq_eq_false_iff_ne.mpr c95
        by_cases h2 : 97 ≤ lowI c ∧ lowI c ≤ 122
        · obtain ⟨h3, h4⟩ := h2
          by_cases h1 : 48 ≤ c ∧ c ≤ 57
          · obtain ⟨h5, h6⟩ := h1
            exact absurd h3 (by have := lowI_dig c h5 h6; omega)
          · have hdig : dig36 c = lowI c - 97 + 10 := by unfold dig36; rw [if_neg h1, if_pos ⟨h3, h4⟩]
            rw [hdig] at hP
            clear hdig
            have h7 : c < 48 ∨ 57 < c := by omega
            clear h1
            by_cases hd : 8 ≤ lowI c - 97 + 10
            · rw [if_pos hd] at hP
              have HP := Aside0.mk hP
              clear hP
              rcases h7 with h7 | h7
              all_goals
                (go_wp2_with (go_at_call 120; (with_reducible refine (lower_any c _).mono ?_); rintro e w' ⟨rfl, rfl⟩)) <;> (go_ret2; exact ⟨by rw [← HP.out]; rfl, bytes_below (Below.refl _ _) (Nat.le_refl _) 5 _⟩)
            · rw [if_neg hd] at hP
              by_cases hn : 2305843009213693952 ≤ m
              · rw [if_pos hn] at hP
                have HP := Aside0.mk hP
                clear hP
                rcases h7 with h7 | h7
                all_goals
                  (go_wp2_with (go_at_call 120; (with_reducible refine (lower_any c _).mono ?_); rintro e w' ⟨rfl, rfl⟩)) <;> (go_ret2; exact ⟨by rw [← HP.out]; rfl, bytes_below (Below.refl _ _) (Nat.le_refl _) 5 _⟩)
              · rw [if_neg hn] at hP
                have hn' : m ≤ 2305843009213693951 := by omega
                by_cases ho : 18446744073709551616 ≤ m * 8 + (lowI c - 97 + 10)
                · rw [if_pos ho] at hP
                  have HP := Aside0.mk hP
                  clear hP
                  obtain ⟨q, hq⟩ : ∃ q, IntKind.u64.wrap (m * 8 + (lowI c - 97 + 10)) = q := ⟨_, rfl⟩
                  have hq1 : q < m * 8 := by rw [← hq, wrap_over _ ho (by omega)]; omega
                  clear ho
                  rcases h7 with h7 | h7
                  all_goals
                    (go_wp2_with (go_at_call 120; (with_reducible refine (lower_any c _).mono ?_); rintro e w' ⟨rfl, rfl⟩)) <;> (go_ret2; exact ⟨by rw [← HP.out]; rfl, bytes_below (Below.refl _ _) (Nat.le_refl _) 5 _⟩)
                · rw [if_neg ho] at hP
                  have HP := Aside0.mk hP
                  clear hP
                  have ho' : m * 8 + (lowI c - 97 + 10) ≤ M64 := by unfold M64; omega
                  have ho2 : m * 8 ≤ m * 8 + (lowI c - 97 + 10) := by omega
                  rcases h7 with h7 | h7
                  all_goals
                    (go_wp2_with (go_at_call 120; (with_reducible refine (lower_any c _).mono ?_); rintro e w' ⟨rfl, rfl⟩)) <;> (go_round; (case rel => exact ⟨k + 1, _, b, by omega, rfl, rfl, by go_num, by omega, by omega, HP⟩); (case measure => simp [intOf]; omega))
        · by_cases h1 : 48 ≤ c ∧ c ≤ 57
          · have hdig : dig36 c = c - 48 := by unfold dig36; rw [if_pos h1]
            obtain ⟨h5, h6⟩ := h1
            rw [hdig] at hP
            clear hdig
            by_cases hd : 8 ≤ c - 48
            · rw [if_pos hd] at hP
              have HP := Aside0.mk hP
              clear hP
              go_wp2
              go_ret2
              exact ⟨by rw [← HP.out]; rfl, bytes_below (Below.refl _ _) (Nat.le_refl _) 5 _⟩
            · rw [if_neg hd] at hP
              by_cases hn : 2305843009213693952 ≤ m
              · rw [if_pos hn] at hP
                have HP := Aside0.mk hP
                clear hP
                go_wp2
                go_ret2
                exact ⟨by rw [← HP.out]; rfl, bytes_below (Below.refl _ _) (Nat.le_refl _) 5 _⟩
              · rw [if_neg hn] at hP
                have hn' : m ≤ 2305843009213693951 := by omega
                by_cases ho : 18446744073709551616 ≤ m * 8 + (c - 48)
                · rw [if_pos ho] at hP
                  have HP := Aside0.mk hP
                  clear hP
                  obtain ⟨q, hq⟩ : ∃ q, IntKind.u64.wrap (m * 8 + (c - 48)) = q := ⟨_, rfl⟩
                  have hq1 : q < m * 8 := by rw [← hq, wrap_over _ ho (by omega)]; omega
                  clear ho
                  go_wp2
                  go_ret2
                  exact ⟨by rw [← HP.out]; rfl, bytes_below (Below.refl _ _) (Nat.le_refl _) 5 _⟩
                · rw [if_neg ho] at hP
                  have HP := Aside0.mk hP
                  clear hP
                  have ho' : m * 8 + (c - 48) ≤ M64 := by unfold M64; omega
                  have ho2 : m * 8 ≤ m * 8 + (c - 48) := by omega
                  go_wp2
                  go_round
                  case rel => exact ⟨k + 1, _, b, by omega, rfl, rfl, by go_num, by omega, by omega, HP⟩
                  case measure => simp [intOf]; omega
          · have hdig : dig36 c = 99 := by unfold dig36; rw [if_neg h1, if_neg h2]
            rw [hdig, if_pos (by omega)] at hP
            have HP := Aside0.mk hP
            clear hP hdig
            have h7 : c < 48 ∨ 57 < c := by omega
            have h8 : lowI c < 97 ∨ 122 < lowI c := by omega
            clear h1 h2
            rcases h7 with h7 | h7 <;> rcases h8 with h8 | h8
            all_goals
              (go_wp2_with (go_at_call 120; (with_reducible refine (lower_any c _).mono ?_); rintro e w' ⟨rfl, rfl⟩)) <;> (go_ret2; exact ⟨by rw [← HP.out]; rfl, bytes_below (Below.refl _ _) (Nat.le_refl _) 5 _⟩)
    · have hP := HP.out
      rw [drop_bytes_end S k hlt, puGo] at hP
      have HP := Aside0.mk hP
      clear hP
      cases b with
      | false =>
        go_wp2
        go_ret2
        exact ⟨by rw [← HP.out]; rfl, bytes_below (Below.refl _ _) (Nat.le_refl _) 5 _⟩
      | true =>
        cases hu : uOK s with
        | true =>
          have hum := fun w => HU.out true hu w
          go_wp2_with (go_at_call 121; (with_reducible refine (hum _).mono ?_); rintro e w' ⟨rfl, ⟨nd, rfl⟩⟩)
          go_ret2
          exact ⟨by rw [← HP.out]; simp [puVal, hu], pw_below_drewN (bytes_below (Below.refl _ _) (Nat.le_refl _) 5 _) _⟩
        | false =>
          have hum := fun w => HU.out false hu w
          go_wp2_with (go_at_call 121; (with_reducible refine (hum _).mono ?_); rintro e w' ⟨rfl, ⟨nd, rfl⟩⟩)
          go_ret2
          exact ⟨by rw [← HP.out]; simp [puVal, hu], pw_below_drewN (bytes_below (Below.refl _ _) (Nat.le_refl _) 5 _) _⟩

set_option maxRecDepth 100000 in
set_option maxHeartbeats 1000000 in
theorem pu8l (s : ByteArray) (hs : s.size ≤ 4096) (S : ByteArray) (hE : s.extract 1 s.size = S) (hSs : S.size ≤ 4096) (h0 : 3 ≤ s.size) (hc : (bt s 0 == 48) = true) (hl98 : (lowI (bt s 1) == 98) = false) (hl111 : (lowI (bt s 1) == 111) = false) (hl120 : (lowI (bt s 1) == 120) = false) (w : World) :
    Calls Tryz.prog 77 #[.string s, .int .i64 0, .int .i64 64] w fun e w' => e = .returned (puVal s (puGo 8 2305843009213693952 (bytesOf S) 0 false)) ∧ Below w.heap.size w w' := by
  obtain ⟨R, hR⟩ : ∃ R, puGo 8 2305843009213693952 (bytesOf S) 0 false = R := ⟨_, rfl⟩
  rw [hR]
  have HR := Aside0.mk hR
  clear hR
  have HU := Aside0.mk (fun r hr w => uok_mono s hs (by omega) (by first | exact hm | (have := eq_of_beq hc; rw [this]; rfl)) (by first | exact hp | (have := eq_of_beq hc; rw [this]; rfl)) r hr w)
  have kb := fun W => print_bytes (P := Tryz.prog) 9 191 5 Tryz.underlying9 Tryz.underlying191 Tryz.underlying5 S W
  have hx : ∀ h : 0 < s.size, ((s[0]'h).toNat : Int) = bt s 0 := bt_at s 0
  have q0 := eq_true (show 0 < s.size by omega)
  have hne : (s.toList.isEmpty) = false := not_empty (by omega)
  have hx1 : ∀ h : 1 < s.size, ((s[1]'h).toNat : Int) = bt s 1 := bt_at s 1
  have q1 := eq_true (show 1 < s.size by omega)
  go_enter Tryz.func77, Tryz.ntmps77
  go_wp2_with (go_at_call 120; (with_reducible refine (lower_any (bt s 1) _).mono ?_); rintro e w' ⟨rfl, rfl⟩)
  clear hE kb hx q0 hne hc hx1 q1 hl98 hl111 hl120
  rw [m64_eq]
  go_loop [12, 13, 101] (fun u n i => ∃ (k : Nat) (m : Int) (b : Bool), k ≤ S.size ∧ u = .bool b ∧ n = .int .u64 m ∧ i = .int .i64 k ∧ 0 ≤ m ∧ m < 18446744073709551616 ∧ Aside0 (puGo 8 2305843009213693952 ((bytesOf S).drop k) m b = R)) (fun _ _ i => S.size - (intOf i).toNat)
  case atStart => exact ⟨0, 0, false, by omega, rfl, rfl, rfl, by omega, by omega, HR⟩
  case round =>
    obtain ⟨k, m, b, hk, rfl, rfl, rfl, hm0, hm1, HP⟩ := hrel
    by_cases hlt : k < S.size
    · have hcell := bytes_cell w 5 S (by omega) k hlt
      have hP := HP.out
      rw [drop_bytes S k hlt, puGo] at hP
      have hb := bt_range S k
      obtain ⟨c, hc⟩ : ∃ c, bt S k = c := ⟨_, rfl⟩
      rw [hc] at hcell hP hb
      clear hc HP
      have hlr := lowI_range c (by omega) (by omega)
      by_cases c95 : c = 95
      · subst c95
        rw [if_pos rfl] at hP
        have HP := Aside0.mk hP
        clear hP
        go_wp2
        go_round
        case rel => exact ⟨k + 1, m, true, by omega, rfl, rfl, by go_num, hm0, hm1, HP⟩
        case measure => simp [intOf]; omega
      · rw [if_neg c95] at hP
        have c95b : (c == 95) = false := beq_eq_false_iff_ne.mpr c95
        by_cases h2 : 97 ≤ lowI c ∧ lowI c ≤ 122
        · obtain ⟨h3, h4⟩ := h2
          by_cases h1 : 48 ≤ c ∧ c ≤ 57
          · obtain ⟨h5, h6⟩ := h1
            exact absurd h3 (by have := lowI_dig c h5 h6; omega)
          · have hdig : dig36 c = lowI c - 97 + 10 := by unfold dig36; rw [if_neg h1, if_pos ⟨h3, h4⟩]
            rw [hdig] at hP
            clear hdig
            have h7 : c < 48 ∨ 57 < c := by omega
            clear h1
            by_cases hd : 8 ≤ lowI c - 97 + 10
            · rw [if_pos hd] at hP
              have HP := Aside0.mk hP
              clear hP
              rcases h7 with h7 | h7
              all_goals
                (go_wp2_with (go_at_call 120; (with_reducible refine (lower_any c _).mono ?_); rintro e w' ⟨rfl, rfl⟩)) <;> (go_ret2; exact ⟨by rw [← HP.out]; rfl, bytes_below (Below.refl _ _) (Nat.le_refl _) 5 _⟩)
            · rw [if_neg hd] at hP
              by_cases hn : 2305843009213693952 ≤ m
              · rw [if_pos hn] at hP
                have HP := Aside0.mk hP
                clear hP
                rcases h7 with h7 | h7
                all_goals
                  (go_wp2_with (go_at_call 120; (with_reducible refine (lower_any c _).mono ?_); rintro e w' ⟨rfl, rfl⟩)) <;> (go_ret2; exact ⟨by rw [← HP.out]; rfl, bytes_below (Below.refl _ _) (Nat.le_refl _) 5 _⟩)
              · rw [if_neg hn] at hP
                have hn' : m ≤ 2305843009213693951 := by omega
                by_cases ho : 18446744073709551616 ≤ m * 8 + (lowI c - 97 + 10)
                · rw [if_pos ho] at hP
                  have HP := Aside0.mk hP
                  clear hP
                  obtain ⟨q, hq⟩ : ∃ q, IntKind.u64.wrap (m * 8 + (lowI c - 97 + 10)) = q := ⟨_, rfl⟩
                  have hq1 : q < m * 8 := by rw [← hq, wrap_over _ ho (by omega)]; omega
                  clear ho
                  rcases h7 with h7 | h7
                  all_goals
                    (go_wp2_with (go_at_call 120; (with_reducible refine (lower_any c _).mono ?_); rintro e w' ⟨rfl, rfl⟩)) <;> (go_ret2; exact ⟨by rw [← HP.out]; rfl, bytes_below (Below.refl _ _) (Nat.le_refl _) 5 _⟩)
                · rw [if_neg ho] at hP
                  have HP := Aside0.mk hP
                  clear hP
                  have ho' : m * 8 + (lowI c - 97 + 10) ≤ M64 := by unfold M64; omega
                  have ho2 : m * 8 ≤ m * 8 + (lowI c - 97 + 10) := by omega
                  rcases h7 with h7 | h7
                  all_goals
                    (go_wp2_with (go_at_call 120; (with_reducible refine (lower_any c _).mono ?_); rintro e w' ⟨rfl, rfl⟩)) <;> (go_round; (case rel => exact ⟨k + 1, _, b, by omega, rfl, rfl, by go_num, by omega, by omega, HP⟩); (case measure => simp [intOf]; omega))
        · by_cases h1 : 48 ≤ c ∧ c ≤ 57
          · have hdig : dig36 c = c - 48 := by unfold dig36; rw [if_pos h1]
            obtain ⟨h5, h6⟩ := h1
            rw [hdig] at hP
            clear hdig
            by_cases hd : 8 ≤ c - 48
            · rw [if_pos hd] at hP
              have HP := Aside0.mk hP
              clear hP
              go_wp2
              go_ret2
              exact ⟨by rw [← HP.out]; rfl, bytes_below (Below.refl _ _) (Nat.le_refl _) 5 _⟩
            · rw [if_neg hd] at hP
              by_cases hn : 2305843009213693952 ≤ m
              · rw [if_pos hn] at hP
                have HP := Aside0.mk hP
                clear hP
                go_wp2
                go_ret2
                exact ⟨by rw [← HP.out]; rfl, bytes_below (Below.refl _ _) (Nat.le_refl _) 5 _⟩
              · rw [if_neg hn] at hP
                have hn' : m ≤ 2305843009213693951 := by omega
                by_cases ho : 18446744073709551616 ≤ m * 8 + (c - 48)
                · rw [if_pos ho] at hP
                  have HP := Aside0.mk hP
                  clear hP
                  obtain ⟨q, hq⟩ : ∃ q, IntKind.u64.wrap (m * 8 + (c - 48)) = q := ⟨_, rfl⟩
                  have hq1 : q < m * 8 := by rw [← hq, wrap_over _ ho (by omega)]; omega
                  clear ho
                  go_wp2
                  go_ret2
                  exact ⟨by rw [← HP.out]; rfl, bytes_below (Below.refl _ _) (Nat.le_refl _) 5 _⟩
                · rw [if_neg ho] at hP
                  have HP := Aside0.mk hP
                  clear hP
                  have ho' : m * 8 + (c - 48) ≤ M64 := by unfold M64; omega
                  have ho2 : m * 8 ≤ m * 8 + (c - 48) := by omega
                  go_wp2
                  go_round
                  case rel => exact ⟨k + 1, _, b, by omega, rfl, rfl, by go_num, by omega, by omega, HP⟩
                  case measure => simp [intOf]; omega
          · have hdig : dig36 c = 99 := by unfold dig36; rw [if_neg h1, if_neg h2]
            rw [hdig, if_pos (by omega)] at hP
            have HP := Aside0.mk hP
            clear hP hdig
            have h7 : c < 48 ∨ 57 < c := by omega
            have h8 : lowI c < 97 ∨ 122 < lowI c := by omega
            clear h1 h2
            rcases h7 with h7 | h7 <;> rcases h8 with h8 | h8
            all_goals
              (go_wp2_with (go_at_call 120; (with_reducible refine (lower_any c _).mono ?_); rintro e w' ⟨rfl, rfl⟩)) <;> (go_ret2; exact ⟨by rw [← HP.out]; rfl, bytes_below (Below.refl _ _) (Nat.le_refl _) 5 _⟩)
    · have hP := HP.out
      rw [drop_bytes_end S k hlt, puGo] at hP
      have HP := Aside0.mk hP
      clear hP
      cases b with
      | false =>
        go_wp2
        go_ret2
        exact ⟨by rw [← HP.out]; rfl, bytes_below (Below.refl _ _) (Nat.le_refl _) 5 _⟩
      | true =>
        cases hu : uOK s with
        | true =>
          have hum := fun w => HU.out true hu w
          go_wp2_with (go_at_call 121; (with_reducible refine (hum _).mono ?_); rintro e w' ⟨rfl, ⟨nd, rfl⟩⟩)
          go_ret2
          exact ⟨by rw [← HP.out]; simp [puVal, hu], pw_below_drewN (bytes_below (Below.refl _ _) (Nat.le_refl _) 5 _) _⟩
        | false =>
          have hum := fun w => HU.out false hu w
          go_wp2_with (go_at_call 121; (with_reducible refine (hum _).mono ?_); rintro e w' ⟨rfl, ⟨nd, rfl⟩⟩)
          go_ret2
          exact ⟨by rw [← HP.out]; simp [puVal, hu], pw_below_drewN (bytes_below (Below.refl _ _) (Nat.le_refl _) 5 _) _⟩
end Go.Proofs.YtnhonclncjgjoaaGreatDoor

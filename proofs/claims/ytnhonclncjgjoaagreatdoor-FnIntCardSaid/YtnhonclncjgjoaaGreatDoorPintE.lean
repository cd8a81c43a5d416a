/- Joined of: PintE Mfl MflB. -/
import Derived.Test.YtnhonclncjgjoaaGreatDoorMulR
import Derived.Test.YtnhonclncjgjoaaGreatDoorTold
import Derived.Test.YtnhonclncjgjoaaGreatDoorFig
import Derived.Test.YtnhonclncjgjoaaGreatDoorShelfE
import Derived.Test.YtnhonclncjgjoaaGreatDoorScanA
namespace Go.Proofs.YtnhonclncjgjoaaGreatDoor
open Go Go.RowKit Go.Proofs.YtnhonclncjgjoaaGreatDoorW.PrintWords
set_option linter.unusedVariables false
set_option linter.unusedSimpArgs false

theorem pu_range {b cut : Int} (hb : 2 ≤ b) : ∀ (l : List Int) (n m : Int) (u v : Bool), 0 ≤ n → n < 18446744073709551616 → puGo b cut l n u = .ok m v → 0 ≤ m ∧ m < 18446744073709551616
  | [], n, m, u, v, h0, h1, h => by
    simp only [puGo] at h
    injection h with h2 _
    subst h2
    exact ⟨h0, h1⟩
  | c :: t, n, m, u, v, h0, h1, h => by
    simp only [puGo] at h
    split at h
    · exact pu_range hb t _ _ _ _ h0 h1 h
    · split at h
      · cases h
      · split at h
        · cases h
        · split at h
          · cases h
          · next hd _ ho =>
            have hd0 : 0 ≤ dig36 c := by
              unfold dig36
              split
              · omega
              · split <;> omega
            have hm : 0 ≤ n * b := Int.mul_nonneg h0 (by omega)
            exact pu_range hb t _ _ _ _ (by omega) (by omega) h
/-- What ParseUint took is a literal's number. -/
def PuOK (s : ByteArray) (P : PU) : Prop := ∀ n u, P = .ok n u → (u && !uOK s) = false → numF (bytesOf s) = some n ∧ 0 ≤ n ∧ n < 18446744073709551616
theorem uflag {s : ByteArray} {u : Bool} (h : (u && !uOK s) = false) : u = false ∨ uOK s = true := by
  cases u
  · exact .inl rfl
  · right; simpa using h
theorem low_isx (s : ByteArray) : (isX (bt s 1) = true ↔ lowI (bt s 1) = 120) ∧ (isO (bt s 1) = true ↔ lowI (bt s 1) = 111) ∧ (isB (bt s 1) = true ↔ lowI (bt s 1) = 98) :=
  low_is (bt s 1) (bt_range s 1).1 (Int.lt_of_le_of_lt (bt_range s 1).2 (by decide))
theorem numF_pre (s : ByteArray) (h2 : 2 ≤ s.size) (h0 : bt s 0 = 48) : numF (bytesOf s) = if isB (bt s 1) then gr 2 true false 0 ((bytesOf s).drop 2) else if isO (bt s 1) then gr 8 true false 0 ((bytesOf s).drop 2) else if isX (bt s 1) then gr 16 true false 0 ((bytesOf s).drop 2) else gr 8 true false 0 ((bytesOf s).drop 1) := by
  have hd1 : (bytesOf s).drop 1 = bt s 1 :: (bytesOf s).drop 2 := drop_bytes s 1 (by omega)
  conv => lhs; rw [bytes_two' s h2]
  rw [hd1]
  show (if bt s 0 = 48 then _ else _) = _
  rw [if_pos h0]
theorem drop_ne (s : ByteArray) (k : Nat) (h : k < s.size) : (bytesOf s).drop k ≠ [] := by rw [drop_bytes s k h]; simp
theorem pu_all (s : ByteArray) (hs : s.size ≤ 60) (h0 : 0 < s.size) (hm : (bt s 0 == 45) = false) (hp : (bt s 0 == 43) = false) (w : World) :
    ∃ P, PuOK s P ∧ Calls Tryz.prog 77 #[.string s, .int .i64 0, .int .i64 64] w fun e w' => e = .returned (puVal s P) ∧ Below w.heap.size w w' := by
  by_cases hc : bt s 0 = 48
  · have hcb : (bt s 0 == 48) = true := by rw [hc]; rfl
    by_cases h3 : s.size < 3
    · refine ⟨_, ?_, pu8s s (by omega) _ rfl (by rw [ByteArray.size_extract]; omega) h0 h3 hcb w⟩
      rw [bytes_cut s 1 (by omega)]
      intro n u hP hu
      refine ⟨?_, pu_range (by decide) _ _ _ _ _ (by decide) (by decide) hP⟩
      by_cases h1 : s.size = 1
      · have e0 := drop_bytes s 0 (by omega)
        have e1 := drop_bytes_end s 1 (by omega)
        rw [e1] at hP
        rw [List.drop_zero, e1] at e0
        simp only [puGo] at hP
        injection hP with hP _
        subst hP
        rw [e0, show bt s ((0 : Nat) : Int) = 48 from hc]
        decide
      · have h2 : s.size = 2 := by omega
        have hl := low_isx s
        have hd : (bytesOf s).drop 1 = [bt s 1] := by rw [drop_bytes s 1 (by omega), drop_bytes_end s 2 (by omega)]; rfl
        have hfig : bt s 1 = 95 ∨ dig36 (bt s 1) < 8 := by
          rw [hd] at hP
          simp only [puGo] at hP
          by_cases h95 : bt s 1 = 95
          · exact .inl h95
          · rw [if_neg h95] at hP
            right
            split at hP
            · cases hP
            · omega
        have not : ∀ x : Int, (x = 120 ∨ x = 111 ∨ x = 98) → ¬ lowI (bt s 1) = x := by
          intro x hx he
          rcases hfig with h95 | hd8
          · rw [h95, show lowI 95 = 127 from by decide] at he
            omega
          · unfold dig36 at hd8
            have hdg := lowI_dig (bt s 1)
            split at hd8
            · next h => have := hdg h.1 h.2; omega
            · rw [he] at hd8
              split at hd8 <;> omega
        have nx : ¬ isX (bt s 1) = true := fun h => not 120 (.inl rfl) (hl.1.1 h)
        have no : ¬ isO (bt s 1) = true := fun h => not 111 (.inr (.inl rfl)) (hl.2.1.1 h)
        have nb : ¬ isB (bt s 1) = true := fun h => not 98 (.inr (.inr rfl)) (hl.2.2.1 h)
        rw [numF_pre s (by omega) hc, if_neg nb, if_neg no, if_neg nx]
        refine pu_gr (hex := false) (.inl (by decide)) _ _ _ 48 _ _ _ hP ?_ (.inr (.inr (drop_ne s 1 (by omega))))
        rcases uflag hu with h | h
        · exact .inl h
        · right
          unfold uOK at h
          rw [if_neg (by rintro ⟨_, _, h | h | h⟩ <;> exact not _ (by simp) (eq_of_beq h)), bytes_two' s (by omega), hc] at h
          rw [drop_bytes s 1 (by omega)]
          exact h
    · have h3' : 3 ≤ s.size := by omega
      have hl := low_isx s
      have hN := numF_pre s (by omega) hc
      have ext : ∀ k, k ≤ s.size → (s.extract k s.size).size ≤ 4096 := fun k hk => by rw [ByteArray.size_extract]; omega
      have pre : ∀ (hex : Bool), (lowI (bt s 1) == 120) = hex → ((lowI (bt s 1) == 98) = true ∨ (lowI (bt s 1) == 111) = true ∨ (lowI (bt s 1) == 120) = true) → uOK s = uGo hex 48 ((bytesOf s).drop 2) := by
        intro hex hh ho
        unfold uOK
        rw [if_pos ⟨by omega, hcb, ho⟩, hh]
      by_cases hb : (lowI (bt s 1) == 98) = true
      · refine ⟨_, ?_, pu2 s (by omega) _ rfl (ext 2 (by omega)) h3' hcb hb w⟩
        rw [bytes_cut s 2 (by omega)]
        intro n u hP hu
        refine ⟨?_, pu_range (by decide) _ _ _ _ _ (by decide) (by decide) hP⟩
        rw [hN, if_pos (hl.2.2.2 (eq_of_beq hb))]
        refine pu_gr (hex := false) (.inl (by decide)) _ _ _ 48 _ _ _ hP ?_ (.inr (.inr (drop_ne s 2 (by omega))))
        rw [← pre false (by rw [eq_of_beq hb]; decide) (.inl hb)]
        exact uflag hu
      · have nb : ¬ isB (bt s 1) = true := fun h => hb (by rw [hl.2.2.1 h]; rfl)
        have hb' := eq_false_of_ne_true hb
        by_cases ho : (lowI (bt s 1) == 111) = true
        · refine ⟨_, ?_, pu8 s (by omega) _ rfl (ext 2 (by omega)) h3' hcb hb' ho w⟩
          rw [bytes_cut s 2 (by omega)]
          intro n u hP hu
          refine ⟨?_, pu_range (by decide) _ _ _ _ _ (by decide) (by decide) hP⟩
          rw [hN, if_neg nb, if_pos (hl.2.1.2 (eq_of_beq ho))]
          refine pu_gr (hex := false) (.inl (by decide)) _ _ _ 48 _ _ _ hP ?_ (.inr (.inr (drop_ne s 2 (by omega))))
          rw [← pre false (by rw [eq_of_beq ho]; decide) (.inr (.inl ho))]
          exact uflag hu
        · have no : ¬ isO (bt s 1) = true := fun h => ho (by rw [hl.2.1.1 h]; rfl)
          have ho' := eq_false_of_ne_true ho
          by_cases hx : (lowI (bt s 1) == 120) = true
          · refine ⟨_, ?_, pu16 s (by omega) _ rfl (ext 2 (by omega)) h3' hcb hb' ho' hx w⟩
            rw [bytes_cut s 2 (by omega)]
            intro n u hP hu
            refine ⟨?_, pu_range (by decide) _ _ _ _ _ (by decide) (by decide) hP⟩
            rw [hN, if_neg nb, if_neg no, if_pos (hl.1.2 (eq_of_beq hx))]
            refine pu_gr (hex := true) (.inr ⟨rfl, by decide⟩) _ _ _ 48 _ _ _ hP ?_ (.inr (.inr (drop_ne s 2 (by omega))))
            rw [← pre true hx (.inr (.inr hx))]
            exact uflag hu
          · have nx : ¬ isX (bt s 1) = true := fun h => hx (by rw [hl.1.1 h]; rfl)
            have hx' := eq_false_of_ne_true hx
            refine ⟨_, ?_, pu8l s (by omega) _ rfl (ext 1 (by omega)) h3' hcb hb' ho' hx' w⟩
            rw [bytes_cut s 1 (by omega)]
            intro n u hP hu
            refine ⟨?_, pu_range (by decide) _ _ _ _ _ (by decide) (by decide) hP⟩
            rw [hN, if_neg nb, if_neg no, if_neg nx]
            refine pu_gr (hex := false) (.inl (by decide)) _ _ _ 48 _ _ _ hP ?_ (.inr (.inr (drop_ne s 1 (by omega))))
            rcases uflag hu with h | h
            · exact .inl h
            · right
              unfold uOK at h
              rw [if_neg (by rintro ⟨_, _, h | h | h⟩ <;> simp_all), bytes_two' s (by omega), hc] at h
              rw [drop_bytes s 1 (by omega)]
              exact h
  · have hcb : (bt s 0 == 48) = false := by rw [beq_eq_false_iff_ne]; exact hc
    refine ⟨_, ?_, pu10 s (by omega) h0 hm hp hcb w⟩
    intro n u hP hu
    refine ⟨?_, pu_range (by decide) _ _ _ _ _ (by decide) (by decide) hP⟩
    have hF : numF (bytesOf s) = gr 10 false false 0 (bytesOf s) := by
      by_cases h1 : s.size = 1
      · have e0 := drop_bytes s 0 (by omega)
        have e1 := drop_bytes_end s 1 (by omega)
        rw [List.drop_zero, e1] at e0
        rw [e0]; rfl
      · rw [bytes_two' s (by omega)]
        show (if bt s 0 = 48 then _ else _) = _
        rw [if_neg hc]
    rw [hF]
    have hne : bytesOf s ≠ [] := by have := drop_ne s 0 h0; rwa [List.drop_zero] at this
    refine pu_gr (hex := false) (.inl (by decide)) _ _ _ 94 _ _ _ hP ?_ (.inr (.inr hne))
    rcases uflag hu with h | h
    · exact .inl h
    · right
      unfold uOK at h
      rw [if_neg (by rintro ⟨_, h, _⟩; rw [hcb] at h; cases h)] at h
      exact h
end Go.Proofs.YtnhonclncjgjoaaGreatDoor

namespace Go.Proofs.YtnhonclncjgjoaaGreatDoor
open Go Go.RowKit Go.Proofs.YtnhonclncjgjoaaGreatDoorW.PrintWords
set_option linter.unusedVariables false
set_option linter.unusedSimpArgs false

abbrev pErr (c : Int) : Value := .iface 157 (.int .i64 c)
theorem perr_neq (c d : Int) (W : World) : (binOp .neq 64 (pErr c) (pErr d)).run Tryz.prog W = .ok (.bool (!(c == d))) W := by
  obtain ⟨m, hd⟩ : ∃ m, Op.maxDepth = m + 2 := ⟨Op.maxDepth - 2, by decide⟩
  have hc : Tryz.t157.comparable = true := by kernel_rfl
  simp [binOp, Op.equal, hd, Op.equalIn, run_underlying Tryz.underlying64, run_underlying Tryz.underlying157, sizeOf, go_sem, hc]
set_option maxRecDepth 100000 in
set_option maxHeartbeats 1000000 in
theorem pint_empty (s : ByteArray) (h0 : s.size = 0) (w : World) : Calls Tryz.prog 48 #[.string s, .int .i64 0, .int .i64 64] w fun e w' => e = .returned (.tuple #[.int .i64 0, pErr 2]) ∧ Below w.heap.size w w' := by
  have hs : s = ⟨#[]⟩ := by
    apply ByteArray.ext
    exact Array.eq_empty_of_size_eq_zero h0
  subst hs
  clear h0
  go_enter Tryz.func48, Tryz.ntmps48
  go_wp2
  go_ret2
  exact ⟨rfl, Below.refl _ _⟩
set_option maxRecDepth 100000 in
set_option maxHeartbeats 1000000 in
theorem pint_syn (s : ByteArray) (h0 : 0 < s.size) (hm : (bt s 0 == 45) = false) (hp : (bt s 0 == 43) = false) (w : World)
    (hU : Calls Tryz.prog 77 #[.string s, .int .i64 0, .int .i64 64] w fun e w' => e = .returned (.tuple #[.int .u64 0, pErr 2]) ∧ Below w.heap.size w w') :
    Calls Tryz.prog 48 #[.string s, .int .i64 0, .int .i64 64] w fun e w' => e = .returned (.tuple #[.int .i64 0, pErr 2]) ∧ Below w.heap.size w w' := by
  have hx : ∀ h : 0 < s.size, ((s[0]'h).toNat : Int) = bt s 0 := bt_at s 0
  have q0 := eq_true (show 0 < s.size by omega)
  have hne : (s.toList.isEmpty) = false := not_empty (by omega)
  have HU := Aside0.mk hU
  have hq2 : ∀ W, (binOp .neq 64 (pErr 2) (pErr 1)).run Tryz.prog W = .ok (.bool true) W := fun W => perr_neq 2 1 W
  have hq1 : ∀ W, (binOp .neq 64 (pErr 1) (pErr 1)).run Tryz.prog W = .ok (.bool false) W := fun W => perr_neq 1 1 W
  clear hU
  go_enter Tryz.func48, Tryz.ntmps48
  go_wp2_with fail
  refine HU.out.mono ?_
  rintro e w1 ⟨rfl, hbel⟩
  have HB := Aside0.mk hbel
  clear hbel
  go_wp2
  go_ret2
  exact ⟨rfl, HB.out⟩
set_option maxRecDepth 100000 in
set_option maxHeartbeats 1000000 in
theorem pint_rng (s : ByteArray) (h0 : 0 < s.size) (hm : (bt s 0 == 45) = false) (hp : (bt s 0 == 43) = false) (w : World)
    (hU : Calls Tryz.prog 77 #[.string s, .int .i64 0, .int .i64 64] w fun e w' => e = .returned (.tuple #[.int .u64 18446744073709551615, pErr 1]) ∧ Below w.heap.size w w') :
    Calls Tryz.prog 48 #[.string s, .int .i64 0, .int .i64 64] w fun e w' => e = .returned (.tuple #[.int .i64 9223372036854775807, pErr 1]) ∧ Below w.heap.size w w' := by
  have hx : ∀ h : 0 < s.size, ((s[0]'h).toNat : Int) = bt s 0 := bt_at s 0
  have q0 := eq_true (show 0 < s.size by omega)
  have hne : (s.toList.isEmpty) = false := not_empty (by omega)
  have HU := Aside0.mk hU
  have hq2 : ∀ W, (binOp .neq 64 (pErr 2) (pErr 1)).run Tryz.prog W = .ok (.bool true) W := fun W => perr_neq 2 1 W
  have hq1 : ∀ W, (binOp .neq 64 (pErr 1) (pErr 1)).run Tryz.prog W = .ok (.bool false) W := fun W => perr_neq 1 1 W
  clear hU
  go_enter Tryz.func48, Tryz.ntmps48
  go_wp2_with fail
  refine HU.out.mono ?_
  rintro e w1 ⟨rfl, hbel⟩
  have HB := Aside0.mk hbel
  clear hbel
  go_wp2
  go_ret2
  exact ⟨rfl, HB.out⟩
set_option maxRecDepth 100000 in
set_option maxHeartbeats 1000000 in
theorem pint_big (s : ByteArray) (h0 : 0 < s.size) (hm : (bt s 0 == 45) = false) (hp : (bt s 0 == 43) = false) (n : Int) (hn : 9223372036854775808 ≤ n) (w : World)
    (hU : Calls Tryz.prog 77 #[.string s, .int .i64 0, .int .i64 64] w fun e w' => e = .returned (.tuple #[.int .u64 n, .nilIface]) ∧ Below w.heap.size w w') :
    Calls Tryz.prog 48 #[.string s, .int .i64 0, .int .i64 64] w fun e w' => e = .returned (.tuple #[.int .i64 9223372036854775807, pErr 1]) ∧ Below w.heap.size w w' := by
  have hx : ∀ h : 0 < s.size, ((s[0]'h).toNat : Int) = bt s 0 := bt_at s 0
  have q0 := eq_true (show 0 < s.size by omega)
  have hne : (s.toList.isEmpty) = false := not_empty (by omega)
  have HU := Aside0.mk hU
  have hq2 : ∀ W, (binOp .neq 64 (pErr 2) (pErr 1)).run Tryz.prog W = .ok (.bool true) W := fun W => perr_neq 2 1 W
  have hq1 : ∀ W, (binOp .neq 64 (pErr 1) (pErr 1)).run Tryz.prog W = .ok (.bool false) W := fun W => perr_neq 1 1 W
  clear hU
  go_enter Tryz.func48, Tryz.ntmps48
  go_wp2_with fail
  refine HU.out.mono ?_
  rintro e w1 ⟨rfl, hbel⟩
  have HB := Aside0.mk hbel
  clear hbel
  go_wp2
  go_ret2
  exact ⟨rfl, HB.out⟩
/-- What ParseInt gives. -/
def PiR (s : ByteArray) (w : World) (e : Ending) (w' : World) : Prop :=
  Below w.heap.size w w' ∧ ((∃ n, e = .returned (.tuple #[.int .i64 n, .nilIface]) ∧ numF (bytesOf s) = some n ∧ 0 ≤ n ∧ n < 9223372036854775808) ∨ ∃ x c, e = .returned (.tuple #[.int .i64 x, pErr c]) ∧ (c = 1 ∨ c = 2))
theorem pint_all (s : ByteArray) (hs : s.size ≤ 60) (hm : (bt s 0 == 45) = false) (hp : (bt s 0 == 43) = false) (w : World) : Calls Tryz.prog 48 #[.string s, .int .i64 0, .int .i64 64] w (PiR s w) := by
  by_cases h0 : s.size = 0
  · refine (pint_empty s h0 w).mono ?_
    rintro e w' ⟨rfl, hb⟩
    exact ⟨hb, .inr ⟨0, 2, rfl, .inr rfl⟩⟩
  · have h1 : 0 < s.size := by omega
    obtain ⟨P, hP, hU⟩ := pu_all s hs h1 hm hp w
    have syn : ∀ (h : puVal s P = .tuple #[.int .u64 0, pErr 2]), Calls Tryz.prog 48 #[.string s, .int .i64 0, .int .i64 64] w (PiR s w) := by
      intro h
      rw [h] at hU
      refine (pint_syn s h1 hm hp w hU).mono ?_
      rintro e w' ⟨rfl, hb⟩
      exact ⟨hb, .inr ⟨0, 2, rfl, .inr rfl⟩⟩
    cases hPe : P with
    | syn => exact syn (by rw [hPe]; rfl)
    | rng =>
      rw [hPe] at hU
      refine (pint_rng s h1 hm hp w hU).mono ?_
      rintro e w' ⟨rfl, hb⟩
      exact ⟨hb, .inr ⟨_, 1, rfl, .inl rfl⟩⟩
    | ok n u =>
      cases hu : (u && !uOK s) with
      | true => exact syn (by rw [hPe]; unfold puVal; simp only [hu, if_true])
      | false =>
        obtain ⟨hF, hn0, hn1⟩ := hP n u hPe hu
        have hv : puVal s P = .tuple #[.int .u64 n, .nilIface] := by
          rw [hPe]
          unfold puVal
          simp only [hu]
          rfl
        rw [hv] at hU
        by_cases hn : n < 9223372036854775808
        · refine (pint_ok s h1 hm hp n hn0 hn w hU).mono ?_
          rintro e w' ⟨rfl, hb⟩
          exact ⟨hb, .inl ⟨n, rfl, hF, hn0, hn⟩⟩
        · refine (pint_big s h1 hm hp n (by omega) w hU).mono ?_
          rintro e w' ⟨rfl, hb⟩
          exact ⟨hb, .inr ⟨_, 1, rfl, .inl rfl⟩⟩
end Go.Proofs.YtnhonclncjgjoaaGreatDoor

namespace Go.Proofs.YtnhonclncjgjoaaGreatDoor
open Go Go.RowKit Go.Proofs.YtnhonclncjgjoaaGreatDoorW.PrintWords
set_option linter.unusedVariables false
set_option linter.unusedSimpArgs false

/-- The listed values of strconv. -/
structure SErrs (w : World) (t1 : TypeId) (v1 : Value) (t2 : TypeId) (v2 : Value) : Prop where
  syn : w.cell? ⟨0, 0, none⟩ = some (.iface t1 v1)
  rng : w.cell? ⟨2, 0, none⟩ = some (.iface t2 v2)
def PpR (s : ByteArray) (w : World) (e : Ending) (w' : World) : Prop :=
  Below w.heap.size w w' ∧ ((∃ n, e = .returned (.tuple #[.int .i64 n, .nilIface]) ∧ numF (bytesOf s) = some n ∧ 0 ≤ n ∧ n < 9223372036854775808) ∨ ∃ x t v, e = .returned (.tuple #[.int .i64 x, .iface t v]))
set_option maxRecDepth 100000 in
set_option maxHeartbeats 1000000 in
theorem ppint_all (s : ByteArray) (hs : s.size ≤ 60) (hm : (bt s 0 == 45) = false) (hp : (bt s 0 == 43) = false) (t1 : TypeId) (v1 : Value) (t2 : TypeId) (v2 : Value) (w : World) (hE : SErrs w t1 v1 t2 v2) : Calls Tryz.prog 26 #[.string s, .int .i64 0, .int .i64 64] w (PpR s w) := by
  have HU := Aside0.mk (pint_all s hs hm hp w)
  have HE := Aside0.mk (And.intro hE hs)
  have g1 := World.block_lt_of_cell? w _ hE.syn
  have g2 := World.block_lt_of_cell? w _ hE.rng
  have HG := Aside0.mk (And.intro g1 g2)
  clear hs hm hp hE g1 g2
  go_enter Tryz.func26, Tryz.ntmps26
  go_wp2_with fail
  refine HU.out.mono ?_
  rintro e w1 ⟨hb, hr⟩
  have HB := Aside0.mk hb
  have HS1 := Aside0.mk (fun (fn : ByteArray) => Tryz.strconv_toError_syntax fn s 0 64 (.iface t1 v1) w1 (by have := HE.out.2; omega) ((hb.cell (p := ⟨0, 0, none⟩) HG.out.1).trans HE.out.1.syn) (.inr ⟨t1, v1, rfl⟩))
  have HS2 := Aside0.mk (fun (fn : ByteArray) => Tryz.strconv_toError_range fn s 0 64 (.iface t2 v2) w1 (by have := HE.out.2; omega) ((hb.cell (p := ⟨2, 0, none⟩) HG.out.2).trans HE.out.1.rng) (.inr ⟨t2, v2, rfl⟩))
  clear hb
  rcases hr with ⟨n, rfl, hF⟩ | ⟨x, c, rfl, hc⟩
  · have HF := Aside0.mk hF
    clear hF
    go_wp2
    go_ret2
    exact ⟨HB.out, .inl ⟨n, rfl, HF.out⟩⟩
  · rcases hc with rfl | rfl
    · go_wp2_with fail
      refine (HS2.out _).mono ?_
      rintro e w2 ⟨N, rfl, hN, _, hb⟩
      have HB2 := Aside0.mk hb
      clear hb hN
      go_wp2
      go_ret2
      exact ⟨HB.out.trans (HB2.out.mono HB.out.size), .inr ⟨x, _, _, rfl⟩⟩
    · go_wp2_with fail
      refine (HS1.out _).mono ?_
      rintro e w2 ⟨N, rfl, hN, _, hb⟩
      have HB2 := Aside0.mk hb
      clear hb hN
      go_wp2
      go_ret2
      exact ⟨HB.out.trans (HB2.out.mono HB.out.size), .inr ⟨x, _, _, rfl⟩⟩
abbrev zW (w : World) : World := w.alloc (.cells #[.bool false, .slice none 0 0] 96)
theorem zW_at (w : World) : ZAt (zW w) w.heap.size false (.slice none 0 0) := ⟨cn rfl, cn rfl, fn rfl, fn rfl⟩
set_option maxRecDepth 100000 in
set_option maxHeartbeats 400000 in
theorem newInt_any (w : World) : Calls Tryz.prog 27 #[] w fun e w' => e = .returned (.pointer (some ⟨w.heap.size, 0, none⟩)) ∧ zW w = w' := by
  go_enter Tryz.func27, Tryz.ntmps27
  go_wp2
  go_ret
  exact ⟨rfl, rfl⟩
/-- What MakeFromLiteral gives for tok INT. -/
def MiR (s : ByteArray) (w : World) (e : Ending) (w' : World) : Prop :=
  Below w.heap.size w w' ∧ ((numF (bytesOf s) = none ∧ e = .returned (.iface 82 (.agg #[]))) ∨
    (∃ n, numF (bytesOf s) = some n ∧ 0 ≤ n ∧ n < 9223372036854775808 ∧ e = .returned (.iface 67 (.int .i64 n))) ∨
    (∃ x gz v B, numF (bytesOf s) = some x ∧ e = .returned (.iface 73 (.agg #[.pointer (some ⟨gz, 0, none⟩)])) ∧ ZAt w' gz false v ∧ NatAt w' B v 100 x))
set_option maxRecDepth 100000 in
set_option maxHeartbeats 1000000 in
theorem mfl_all (s : ByteArray) (hs : s.size ≤ 60) (hm : (bt s 0 == 45) = false) (hp : (bt s 0 == 43) = false) (t1 : TypeId) (v1 : Value) (t2 : TypeId) (v2 : Value) (a : Addr) (ti : TypeId) (vi : Value) (tn : TypeId) (vn : Value) (w : World) (hS : SErrs w t1 v1 t2 v2) (hE : Errs w a ti vi tn vn) :
    Calls Tryz.prog 13 #[.string s, .int .i64 5, .int .u64 0] w (MiR s w) := by
  have HU := Aside0.mk (ppint_all s hs hm hp t1 v1 t2 v2 w hS)
  have HE := Aside0.mk (And.intro hE (And.intro hE.low (And.intro hs (And.intro hm hp))))
  clear hs hm hp hS hE
  go_enter Tryz.func13, Tryz.ntmps13
  go_wp2_with fail
  refine HU.out.mono ?_
  rintro e w1 ⟨hb, hr⟩
  rcases hr with ⟨n, rfl, hF, hn0, hn1⟩ | ⟨x, t, v, rfl⟩
  · have HF := Aside0.mk (And.intro hb (And.intro hF (And.intro hn0 hn1)))
    clear hb hF hn0 hn1
    go_wp2
    go_ret
    exact ⟨HF.out.1, .inr (.inl ⟨n, HF.out.2.1, HF.out.2.2.1, HF.out.2.2.2, rfl⟩)⟩
  · have HZ := Aside0.mk (setString s HE.out.2.2.1 HE.out.2.2.2.1 HE.out.2.2.2.2 w1.heap.size a ti vi tn vn (zW w1) (by simp) (zW_at w1) (by
      have hl := HE.out.2.1
      have hz := hb.size
      have k1 : ∀ g, g < w.heap.size → (zW w1).cell? ⟨g, 0, none⟩ = w.cell? ⟨g, 0, none⟩ := fun g hg => (ca (Nat.lt_of_lt_of_le hg hz)).trans (hb.cell (p := ⟨g, 0, none⟩) hg)
      exact ⟨(k1 _ hl.1).trans HE.out.1.eof, (k1 _ hl.2.1).trans HE.out.1.inv, (k1 _ hl.2.2).trans HE.out.1.non⟩) (by have := HE.out.2.1.1; have := hb.size; omega))
    have HB := Aside0.mk hb
    clear hb
    go_wp2_with (go_at_call 27; refine (newInt_any _).mono ?_; rintro e w' ⟨rfl, rfl⟩)
    refine HZ.out.mono ?_
    rintro e w2 ⟨zp, ok, rfl, hk, hr⟩
    have HK := Aside0.mk (show Below w.heap.size w w2 from HB.out.trans ⟨hk.os, hk.tape, hk.output, Nat.le_trans (by simp) hk.size, fun k hk1 => (hk.block k (by have := HB.out.size; simp; omega) (by have := HB.out.size; omega)).trans (Below.heap_alloc w1 _ k (by have := HB.out.size; omega))⟩)
    clear hk
    rcases hr with ⟨hF, rfl⟩ | ⟨rfl, rfl, y, v, hF, hN, hZ⟩
    · have HF := Aside0.mk hF
      clear hF
      go_wp2
      go_ret
      exact ⟨HK.out, .inl ⟨HF.out, rfl⟩⟩
    · have HF := Aside0.mk (And.intro hF (And.intro hN hZ))
      clear hF hN hZ
      go_wp2
      go_ret
      exact ⟨HK.out, .inr (.inr ⟨y, _, v, _, HF.out.1, rfl, HF.out.2.2, HF.out.2.1⟩)⟩
end Go.Proofs.YtnhonclncjgjoaaGreatDoor

/- The reference's runeOf and Valid in plain numbers. -/
import Derived.Test.YtamkkdeloknjiaaGreatDoorB
import Derived.Test.YtamkkdeloknjiaaGreatDoorRune
import Derived.Test.YtamkkdeloknjiaaGreatDoorPs0
import Derived.Test.YtamkkdeloknjiaaGreatDoorPs1
import Derived.Test.YtamkkdeloknjiaaGreatDoorPs2
namespace Go.Proofs.YtamkkdeloknjiaaGreatDoor
open Go Go.RowKit Go.Proofs.YtamkkdeloknjiaaGreatDoorW.PrintWords Ps
set_option linter.unusedVariables false
set_option linter.unusedSimpArgs false

theorem rowraps_i64 (n : Int) (h₀ : 0 ≤ n) (h₁ : n < 2 ^ 63) : IntKind.i64.wrap n = n := by rw [IntKind.wrap_i64]; omega
theorem row64 (n : Int) (h0 : 0 ≤ n) (h1 : n < 9223372036854775808) : wrap64 n = n := by unfold wrap64; omega
theorem i64_and31 (x : Int) (h₀ : 0 ≤ x) (h₁ : x < 9223372036854775808) : Go.bits .and .i64 x 31 = x % 32 := bits_mask .i64 63 (by decide) rowraps_i64 5 (by decide) x h₀ (by omega)
theorem i64_and15 (x : Int) (h₀ : 0 ≤ x) (h₁ : x < 9223372036854775808) : Go.bits .and .i64 x 15 = x % 16 := bits_mask .i64 63 (by decide) rowraps_i64 4 (by decide) x h₀ (by omega)
theorem i64_and7 (x : Int) (h₀ : 0 ≤ x) (h₁ : x < 9223372036854775808) : Go.bits .and .i64 x 7 = x % 8 := bits_mask .i64 63 (by decide) rowraps_i64 3 (by decide) x h₀ (by omega)
theorem i64_or6 (x y : Int) (hx₀ : 0 ≤ x) (hx : x % 64 = 0) (hx₁ : x < 9223372036854775808) (h₀ : 0 ≤ y) (h₁ : y < 64) : Go.bits .or .i64 x y = x + y :=
  bits_join .i64 63 (by decide) rowraps_i64 6 x y hx₀ (by omega) (by omega) h₀ (by omega) (by omega)
set_option maxRecDepth 100000 in
theorem u8_192 : ∀ x : Fin 256, (Go.bits .and .u8 ((x.val : Nat) : Int) 192 = 128) = (x.val / 64 = 2) := by decide
theorem u8_192' (b : Int) (h0 : 0 ≤ b) (h1 : b ≤ 255) : (Go.bits .and .u8 b 192 = 128) ↔ b / 64 = 2 := by
  obtain ⟨n, rfl⟩ := Int.eq_ofNat_of_zero_le h0
  have := u8_192 ⟨n, by omega⟩
  simp only at this
  rw [this]
  omega

theorem ro_step (k : Nat) (s : ByteArray) (n v l i : Int) (hi : i < n) (h0 : 0 ≤ i) (hs : i < s.size) (hn : n ≤ 8) (hv0 : 0 ≤ v) (hv1 : v < 1099511627776) :
    spec_runeOf.l0 (k + 1) s n v l i = if bt s i / 64 = 2 then spec_runeOf.l0 k s n (v * 64 + bt s i % 64) l (i + 1) else some (0, 0) := by
  have hb := bt_range s i
  have e : spec_runeOf.l0 (k + 1) s n v l i = if (Go.bits .and .u8 (bt s i) 192) = 128 then (spec_runeOf.l0 k s n (Go.bits .or .i64 (wrap64 (v * 64)) (wrap64 (Go.bits .and .u8 (bt s i) 63))) l (wrap64 (i + 1))) else (some (0, 0)) := by
    show (if i < n then _ else _) = _
    rw [if_pos hi, if_pos h0, if_pos hs]
  rw [e]
  have h63 : Go.bits .and .u8 (bt s i) 63 = bt s i % 64 := u8_and63 _ hb.1 (by omega)
  by_cases c : bt s i / 64 = 2
  · rw [if_pos ((u8_192' _ hb.1 hb.2).2 c), if_pos c, h63, row64 (v * 64) (by omega) (by omega), row64 (bt s i % 64) (by omega) (by omega), row64 (i + 1) (by omega) (by omega), i64_or6 (v * 64) _ (by omega) (by omega) (by omega) (by omega) (by omega)]
  · rw [if_neg (fun h => c ((u8_192' _ hb.1 hb.2).1 h)), if_neg c]
theorem ro_end (k : Nat) (s : ByteArray) (n v l : Int) :
    spec_runeOf.l0 (k + 1) s n v l n = if v < l ∨ 1114111 < v ∨ (55296 ≤ v ∧ v < 57344) then some (0, 0) else some (v, n) := by
  show (if n < n then _ else _) = _
  rw [if_neg (Int.lt_irrefl n)]
  by_cases a : v < l
  · rw [if_pos a, if_pos (Or.inl a)]
  · rw [if_neg a]
    by_cases b : v > 1114111
    · rw [if_pos b, if_pos (Or.inr (Or.inl b))]
    · rw [if_neg b]
      by_cases c : v ≥ 55296
      · rw [if_pos c]
        by_cases d : v < 57344
        · rw [if_pos d, if_pos (by omega)]
        · rw [if_neg d, if_neg (by omega)]
      · rw [if_neg c, if_neg (by omega)]

/-- A byte of a text as a natural number. -/
def bn (s : ByteArray) (i : Int) : Nat := (bt s i).toNat
theorem bn_bt (s : ByteArray) (i : Int) : ((bn s i : Nat) : Int) = bt s i := by
  unfold bn
  have := bt_range s i
  omega
theorem bn_lt (s : ByteArray) (i : Int) : bn s i < 256 := by
  unfold bn
  have := bt_range s i
  omega
/-- The character at the front of a text. -/
def rnS (s : ByteArray) : Nat × Nat := rnN s.size (bn s 0) (bn s 1) (bn s 2) (bn s 3)
def pr (p : Nat × Nat) : Int × Int := ((p.1 : Int), (p.2 : Int))
set_option maxHeartbeats 2000000 in
theorem runeOf_plain (s : ByteArray) : spec_runeOf.f 8 s = some (pr (rnS s)) := by
  have q0 := bn_bt s 0
  have q1 := bn_bt s 1
  have q2 := bn_bt s 2
  have q3 := bn_bt s 3
  have l0 := bn_lt s 0
  have l1 := bn_lt s 1
  have l2 := bn_lt s 2
  have l3 := bn_lt s 3
  unfold rnS
  obtain ⟨b0, e0⟩ : ∃ b, bn s 0 = b := ⟨_, rfl⟩
  obtain ⟨b1, e1⟩ : ∃ b, bn s 1 = b := ⟨_, rfl⟩
  obtain ⟨b2, e2⟩ : ∃ b, bn s 2 = b := ⟨_, rfl⟩
  obtain ⟨b3, e3⟩ : ∃ b, bn s 3 = b := ⟨_, rfl⟩
  rw [e0] at q0 l0 ⊢
  rw [e1] at q1 l1 ⊢
  rw [e2] at q2 l2 ⊢
  rw [e3] at q3 l3 ⊢
  unfold spec_runeOf.f rnN
  rw [← q0, row64 (b0 : Int) (by omega) (by omega)]
  by_cases z : s.size = 0
  · rw [if_pos (show (s.size : Int) = 0 by omega), if_pos z]; rfl
  rw [if_neg (show ¬ (s.size : Int) = 0 by omega), if_pos (show 0 < (s.size : Int) by omega), if_neg z]
  by_cases c0 : b0 < 128
  · rw [if_pos (show (b0 : Int) < 128 by omega), if_pos c0]; rfl
  rw [if_neg (show ¬ (b0 : Int) < 128 by omega), if_neg c0]
  have wide2 : 194 ≤ b0 → b0 < 224 → spec_runeOf.j2 7 s 2 (Go.bits .and .i64 b0 31) 128 = some (pr (if s.size < 2 ∨ b1 / 64 ≠ 2 then (0, 0) else (b0 % 32 * 64 + b1 % 64, 2))) := by
    intro h1 h2
    rw [i64_and31 (b0 : Int) (by omega) (by omega)]
    show (if (s.size : Int) < 2 then _ else _) = _
    by_cases a : s.size < 2
    · rw [if_pos (show (s.size : Int) < 2 by omega), if_pos (Or.inl a)]; rfl
    rw [if_neg (show ¬ (s.size : Int) < 2 by omega), ro_step 5 s _ _ _ _ (by omega) (by omega) (by omega) (by omega) (by omega) (by omega), ← q1]
    by_cases b : b1 / 64 = 2
    · rw [if_pos (show (b1 : Int) / 64 = 2 by omega), if_neg (show ¬ (s.size < 2 ∨ b1 / 64 ≠ 2) by omega), show (1 : Int) + 1 = 2 by rfl, ro_end 4, if_neg (by omega)]
      rfl
    · rw [if_neg (show ¬ (b1 : Int) / 64 = 2 by omega), if_pos (Or.inr b)]; rfl
  have wide3 : 224 ≤ b0 → b0 < 240 → ∀ k, spec_runeOf.j2 (k + 6) s 3 (Go.bits .and .i64 b0 15) 2048 = some (pr (if s.size < 3 ∨ b1 / 64 ≠ 2 ∨ b2 / 64 ≠ 2 then (0, 0) else if b0 % 16 * 4096 + b1 % 64 * 64 + b2 % 64 < 2048 ∨ (55296 ≤ b0 % 16 * 4096 + b1 % 64 * 64 + b2 % 64 ∧ b0 % 16 * 4096 + b1 % 64 * 64 + b2 % 64 < 57344) then (0, 0) else (b0 % 16 * 4096 + b1 % 64 * 64 + b2 % 64, 3))) := by
    intro h1 h2 k
    rw [i64_and15 (b0 : Int) (by omega) (by omega)]
    show (if (s.size : Int) < 3 then _ else _) = _
    by_cases a : s.size < 3
    · rw [if_pos (show (s.size : Int) < 3 by omega), if_pos (Or.inl a)]; rfl
    rw [if_neg (show ¬ (s.size : Int) < 3 by omega), ro_step (k + 4) s _ _ _ _ (by omega) (by omega) (by omega) (by omega) (by omega) (by omega), ← q1]
    by_cases b : b1 / 64 = 2
    · rw [if_pos (show (b1 : Int) / 64 = 2 by omega), show (1 : Int) + 1 = 2 by rfl, ro_step (k + 3) s _ _ _ _ (by omega) (by omega) (by omega) (by omega) (by omega) (by omega), ← q2]
      by_cases c : b2 / 64 = 2
      · rw [if_pos (show (b2 : Int) / 64 = 2 by omega), if_neg (show ¬ (s.size < 3 ∨ b1 / 64 ≠ 2 ∨ b2 / 64 ≠ 2) by omega), show (2 : Int) + 1 = 3 by rfl, ro_end (k + 2)]
        by_cases d : b0 % 16 * 4096 + b1 % 64 * 64 + b2 % 64 < 2048 ∨ (55296 ≤ b0 % 16 * 4096 + b1 % 64 * 64 + b2 % 64 ∧ b0 % 16 * 4096 + b1 % 64 * 64 + b2 % 64 < 57344)
        · rw [if_pos (by omega), if_pos d]; rfl
        · rw [if_neg (by omega), if_neg d]
          unfold pr
          congr 2
          simp only []
          omega
      · rw [if_neg (show ¬ (b2 : Int) / 64 = 2 by omega), if_pos (Or.inr (Or.inr c))]; rfl
    · rw [if_neg (show ¬ (b1 : Int) / 64 = 2 by omega), if_pos (Or.inr (Or.inl b))]; rfl
  have wide4 : 240 ≤ b0 → b0 < 245 → ∀ k, spec_runeOf.j2 (k + 6) s 4 (Go.bits .and .i64 b0 7) 65536 = some (pr (if s.size < 4 ∨ b1 / 64 ≠ 2 ∨ b2 / 64 ≠ 2 ∨ b3 / 64 ≠ 2 then (0, 0) else if b0 % 8 * 262144 + b1 % 64 * 4096 + b2 % 64 * 64 + b3 % 64 < 65536 ∨ 1114111 < b0 % 8 * 262144 + b1 % 64 * 4096 + b2 % 64 * 64 + b3 % 64 then (0, 0) else (b0 % 8 * 262144 + b1 % 64 * 4096 + b2 % 64 * 64 + b3 % 64, 4))) := by
    intro h1 h2 k
    rw [i64_and7 (b0 : Int) (by omega) (by omega)]
    show (if (s.size : Int) < 4 then _ else _) = _
    by_cases a : s.size < 4
    · rw [if_pos (show (s.size : Int) < 4 by omega), if_pos (Or.inl a)]; rfl
    rw [if_neg (show ¬ (s.size : Int) < 4 by omega), ro_step (k + 4) s _ _ _ _ (by omega) (by omega) (by omega) (by omega) (by omega) (by omega), ← q1]
    by_cases b : b1 / 64 = 2
    · rw [if_pos (show (b1 : Int) / 64 = 2 by omega), show (1 : Int) + 1 = 2 by rfl, ro_step (k + 3) s _ _ _ _ (by omega) (by omega) (by omega) (by omega) (by omega) (by omega), ← q2]
      by_cases c : b2 / 64 = 2
      · rw [if_pos (show (b2 : Int) / 64 = 2 by omega), show (2 : Int) + 1 = 3 by rfl, ro_step (k + 2) s _ _ _ _ (by omega) (by omega) (by omega) (by omega) (by omega) (by omega), ← q3]
        by_cases d : b3 / 64 = 2
        · rw [if_pos (show (b3 : Int) / 64 = 2 by omega), if_neg (show ¬ (s.size < 4 ∨ b1 / 64 ≠ 2 ∨ b2 / 64 ≠ 2 ∨ b3 / 64 ≠ 2) by omega), show (3 : Int) + 1 = 4 by rfl, ro_end (k + 1)]
          by_cases f : b0 % 8 * 262144 + b1 % 64 * 4096 + b2 % 64 * 64 + b3 % 64 < 65536 ∨ 1114111 < b0 % 8 * 262144 + b1 % 64 * 4096 + b2 % 64 * 64 + b3 % 64
          · rw [if_pos (by omega), if_pos f]; rfl
          · rw [if_neg (by omega), if_neg f]
            unfold pr
            congr 2
            simp only []
            omega
        · rw [if_neg (show ¬ (b3 : Int) / 64 = 2 by omega), if_pos (Or.inr (Or.inr (Or.inr d)))]; rfl
      · rw [if_neg (show ¬ (b2 : Int) / 64 = 2 by omega), if_pos (Or.inr (Or.inr (Or.inl c)))]; rfl
    · rw [if_neg (show ¬ (b1 : Int) / 64 = 2 by omega), if_pos (Or.inr (Or.inl b))]; rfl
  by_cases c1 : 194 ≤ b0 ∧ b0 < 224
  · rw [if_pos (show (b0 : Int) ≥ 194 by omega), if_pos c1, decide_eq_true (show (b0 : Int) < 224 by omega)]
    exact wide2 c1.1 c1.2
  rw [if_neg c1]
  have hj : (if (b0 : Int) ≥ 194 then spec_runeOf.j0 8 s b0 (decide ((b0 : Int) < 224)) else spec_runeOf.j0 8 s b0 false) = (if (b0 : Int) ≥ 224 then (spec_runeOf.j1 7 s b0 (decide ((b0 : Int) < 240))) else (spec_runeOf.j1 7 s b0 false)) := by
    have hf : spec_runeOf.j0 8 s b0 false = (if (b0 : Int) ≥ 224 then (spec_runeOf.j1 7 s b0 (decide ((b0 : Int) < 240))) else (spec_runeOf.j1 7 s b0 false)) := by
      rfl
    by_cases h : (b0 : Int) ≥ 194
    · rw [if_pos h, decide_eq_false (show ¬ (b0 : Int) < 224 by omega)]; exact hf
    · rw [if_neg h]; exact hf
  rw [hj]
  by_cases c2 : 224 ≤ b0 ∧ b0 < 240
  · rw [if_pos (show (b0 : Int) ≥ 224 by omega), if_pos c2, decide_eq_true (show (b0 : Int) < 240 by omega)]
    exact wide3 c2.1 c2.2 0
  rw [if_neg c2]
  have hj2 : (if (b0 : Int) ≥ 224 then (spec_runeOf.j1 7 s b0 (decide ((b0 : Int) < 240))) else (spec_runeOf.j1 7 s b0 false)) = (if (b0 : Int) ≥ 240 then (if (b0 : Int) < 245 then (spec_runeOf.j2 6 s 4 (Go.bits .and .i64 b0 7) 65536) else (some (0, 0))) else (some (0, 0))) := by
    have hf : spec_runeOf.j1 7 s b0 false = (if (b0 : Int) ≥ 240 then (if (b0 : Int) < 245 then (spec_runeOf.j2 6 s 4 (Go.bits .and .i64 b0 7) 65536) else (some (0, 0))) else (some (0, 0))) := by
      rfl
    by_cases h : (b0 : Int) ≥ 224
    · rw [if_pos h, decide_eq_false (show ¬ (b0 : Int) < 240 by omega)]; exact hf
    · rw [if_neg h]; exact hf
  rw [hj2]
  by_cases c3 : 240 ≤ b0 ∧ b0 < 245
  · rw [if_pos (show (b0 : Int) ≥ 240 by omega), if_pos (show (b0 : Int) < 245 by omega), if_pos c3]
    exact wide4 c3.1 c3.2 0
  · rw [if_neg c3]
    by_cases h : (b0 : Int) ≥ 240
    · rw [if_pos h, if_neg (show ¬ (b0 : Int) < 245 by omega)]; rfl
    · rw [if_neg h]; rfl

theorem runeOf_any (s : ByteArray) (w : World) : Calls Tryz.prog 8 #[.string s] w fun e w' => e = .returned (.tuple #[.int .i64 (rnS s).1, .int .i64 (rnS s).2]) ∧ Drawn0 w w' :=
  spec_runeOf.calls 8 s _ _ w (runeOf_plain s)
end Go.Proofs.YtamkkdeloknjiaaGreatDoor

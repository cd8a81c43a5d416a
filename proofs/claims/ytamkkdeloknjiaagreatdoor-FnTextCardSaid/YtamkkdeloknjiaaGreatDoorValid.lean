/- The reference's Valid: it answers at every text, and where it says yes each character is one. -/
import Derived.Test.YtamkkdeloknjiaaGreatDoorRuneOf
import Derived.Shelf.Unicode.DecodeSlow
namespace Go.Proofs.YtamkkdeloknjiaaGreatDoor
open Go Go.RowKit Go.Proofs.YtamkkdeloknjiaaGreatDoorW.PrintWords Ps
set_option linter.unusedVariables false
set_option linter.unusedSimpArgs false

theorem ro_mono (s : ByteArray) (k m : Nat) (r : Int × Int) (h : spec_runeOf.f k s = some r) : spec_runeOf.f (k + m) s = some r := by
  induction m with
  | zero => exact h
  | succ m ih => exact spec_runeOf.mono s (k + m) _ ih
theorem ro_det (s : ByteArray) (k : Nat) (r : Int × Int) (h : spec_runeOf.f k s = some r) : r = pr (rnS s) := by
  have h1 := ro_mono s k 8 r h
  have h2 := ro_mono s 8 k _ (runeOf_plain s)
  rw [Nat.add_comm] at h2
  rw [h1] at h2
  exact Option.some.inj h2
/-- A text that Valid says yes to. -/
def VT (s : ByteArray) : Prop := ∃ k, spec_Valid.l0 k s = some true
theorem rnS_le (s : ByteArray) : (rnS s).2 ≤ s.size := (rn_le _ _ _ _ _).1
theorem size_cut (s : ByteArray) (a : Nat) : (s.extract a s.size).size = s.size - a := by rw [ByteArray.size_extract]; omega
theorem valid_total : ∀ (n : Nat) (s : ByteArray), s.size ≤ n → ∃ r, spec_Valid.l0 (n + 9) s = some r := by
  intro n
  induction n with
  | zero =>
    intro s h
    refine ⟨true, ?_⟩
    show (if (s.size : Int) > 0 then _ else _) = _
    rw [if_neg (by omega)]
  | succ n ih =>
    intro s h
    show ∃ r, (if (s.size : Int) > 0 then _ else _) = some r
    by_cases h0 : (s.size : Int) > 0
    · rw [if_pos h0]
      have hr := ro_mono s 8 (n + 1) _ (runeOf_plain s)
      rw [show 8 + (n + 1) = n + 9 by omega] at hr
      rw [show n + 1 + 8 = n + 9 by omega, hr]
      show ∃ r, (if (pr (rnS s)).2 = 0 then _ else _) = some r
      by_cases hz : (rnS s).2 = 0
      · exact ⟨false, by rw [if_pos (by unfold pr; simp only []; omega)]⟩
      · have hl := rnS_le s
        rw [if_neg (show ¬ (pr (rnS s)).2 = 0 by unfold pr; simp only []; omega), if_pos (show 0 ≤ (pr (rnS s)).2 by unfold pr; simp only []; omega), if_pos (show (pr (rnS s)).2 ≤ (s.size : Int) by unfold pr; simp only []; omega)]
        refine ih _ ?_
        rw [show (pr (rnS s)).2.toNat = (rnS s).2 by unfold pr; simp only []; omega, size_cut]
        omega
    · rw [if_neg h0]
      exact ⟨true, rfl⟩
theorem vt_step (s : ByteArray) (h : VT s) (h0 : 0 < s.size) : 0 < (rnS s).2 ∧ VT (s.extract (rnS s).2 s.size) := by
  obtain ⟨k, hk⟩ := h
  cases k with
  | zero => simp [spec_Valid.l0] at hk
  | succ k =>
    have hk2 : (if (s.size : Int) > 0 then ((spec_runeOf.f k s).bind fun bt101 => (if bt101.2 = 0 then (some false) else (if 0 ≤ bt101.2 then (if bt101.2 ≤ (s.size : Int) then (spec_Valid.l0 k (s.extract (bt101.2 : Int).toNat s.size)) else (none)) else (none)))) else (some true)) = some true := hk
    rw [if_pos (by omega)] at hk2
    cases hr : spec_runeOf.f k s with
    | none => rw [hr] at hk2; simp at hk2
    | some r =>
      rw [hr] at hk2
      have he := ro_det s k r hr
      subst he
      simp only [Option.bind_some] at hk2
      by_cases hz : (rnS s).2 = 0
      · rw [if_pos (by unfold pr; simp only []; omega)] at hk2; simp at hk2
      · have hl := rnS_le s
        rw [if_neg (show ¬ (pr (rnS s)).2 = 0 by unfold pr; simp only []; omega), if_pos (show 0 ≤ (pr (rnS s)).2 by unfold pr; simp only []; omega), if_pos (show (pr (rnS s)).2 ≤ (s.size : Int) by unfold pr; simp only []; omega), show (pr (rnS s)).2.toNat = (rnS s).2 by unfold pr; simp only []; omega] at hk2
        exact ⟨by omega, k, hk2⟩
theorem valid_any2 (s : ByteArray) (w : World) : ∃ r : Bool, (Calls Tryz.prog 4 #[.string s] w fun e w' => e = .returned (.bool r) ∧ Drawn0 w w') ∧ (r = true → VT s) := by
  obtain ⟨r, hr⟩ := valid_total s.size s (Nat.le_refl _)
  exact ⟨r, spec_Valid.calls _ s r w hr, fun h => by subst h; exact ⟨_, hr⟩⟩

/-- A character that lies ahead of a byte below 128 does not reach over it. -/
theorem rn_cut (n b0 b1 b2 b3 B1 B2 B3 : Nat) (hn : 1 ≤ n) (h1 : 1 < n → B1 = b1) (g1 : n = 1 → B1 < 128) (h2 : 2 < n → B2 = b2) (g2 : n = 2 → B2 < 128) (h3 : 3 < n → B3 = b3) (g3 : n = 3 → B3 < 128)
    (hp : 0 < (rnN (n + 1) b0 B1 B2 B3).2) : rnN n b0 b1 b2 b3 = rnN (n + 1) b0 B1 B2 B3 := by
  revert hp
  unfold rnN
  rw [if_neg (show ¬ n + 1 = 0 by omega), if_neg (show ¬ n = 0 by omega)]
  by_cases c0 : b0 < 128
  · rw [if_pos c0, if_pos c0]; intro _; rfl
  rw [if_neg c0, if_neg c0]
  by_cases c1 : 194 ≤ b0 ∧ b0 < 224
  · rw [if_pos c1, if_pos c1]
    by_cases a : n + 1 < 2 ∨ B1 / 64 ≠ 2
    · rw [if_pos a]; intro hp; exact absurd hp (by decide)
    · have hn2 : 1 < n := by omega
      obtain rfl := h1 hn2
      rw [if_neg a, if_neg (by omega)]; intro _; rfl
  rw [if_neg c1, if_neg c1]
  by_cases c2 : 224 ≤ b0 ∧ b0 < 240
  · rw [if_pos c2, if_pos c2]
    by_cases a : n + 1 < 3 ∨ B1 / 64 ≠ 2 ∨ B2 / 64 ≠ 2
    · rw [if_pos a]; intro hp; exact absurd hp (by decide)
    · have hn1 : n ≠ 1 := fun h => by have := g1 h; omega
      have hn2 : n ≠ 2 := fun h => by have := g2 h; omega
      obtain rfl := h1 (by omega)
      obtain rfl := h2 (by omega)
      rw [if_neg a, if_neg (show ¬ (n < 3 ∨ B1 / 64 ≠ 2 ∨ B2 / 64 ≠ 2) by omega)]; intro _; rfl
  rw [if_neg c2, if_neg c2]
  by_cases c3 : 240 ≤ b0 ∧ b0 < 245
  · rw [if_pos c3, if_pos c3]
    by_cases a : n + 1 < 4 ∨ B1 / 64 ≠ 2 ∨ B2 / 64 ≠ 2 ∨ B3 / 64 ≠ 2
    · rw [if_pos a]; intro hp; exact absurd hp (by decide)
    · have hn1 : n ≠ 1 := fun h => by have := g1 h; omega
      have hn2 : n ≠ 2 := fun h => by have := g2 h; omega
      have hn3 : n ≠ 3 := fun h => by have := g3 h; omega
      obtain rfl := h1 (by omega)
      obtain rfl := h2 (by omega)
      obtain rfl := h3 (by omega)
      rw [if_neg a, if_neg (show ¬ (n < 4 ∨ B1 / 64 ≠ 2 ∨ B2 / 64 ≠ 2 ∨ B3 / 64 ≠ 2) by omega)]; intro _; rfl
  rw [if_neg c3, if_neg c3]
  intro hp; exact absurd hp (by decide)

/-- The bytes of a part of a text. -/
theorem bt_cut (s : ByteArray) (a b : Nat) (i : Nat) (h : i < b - a) (hb : b ≤ s.size) : bt (s.extract a b) i = bt s (a + i : Nat) := by
  have h1 := bt_at (s.extract a b) i (by simp only [Int.toNat_natCast, ByteArray.size_extract]; omega)
  have h2 := bt_at s (a + i : Nat) (by simp only [Int.toNat_natCast]; omega)
  rw [← h1, ← h2]
  simp only [Int.toNat_natCast]
  rw [ByteArray.getElem_extract]
theorem bt_past (s : ByteArray) (i : Int) (h : ¬ i.toNat < s.size) : bt s i = 0 := by unfold bt; rw [dif_neg h]

/-- What the decoder gives at a text whose first character is one. -/
theorem dec_rn (s : ByteArray) (h0 : 0 < s.size) (hp : 0 < (rnS s).2) : Lib.decodeGo s = rnS s := by
  unfold Lib.decodeGo
  rw [if_neg (by omega), Lib.decode_at]
  have e : ∀ i : Nat, (s.get! (0 + i)).toNat = bn s i := by
    intro i
    unfold bn
    by_cases h : i < s.size
    · have h1 := bt_at s i (by simpa using h)
      rw [← h1]
      simp only [Int.toNat_natCast, Nat.zero_add]
      have h2 : s.get! i = s[i]'h := by
        have hd : i < s.data.size := h
        simp [ByteArray.get!, getElem!_pos, h]
        rfl
      rw [h2]
    · rw [bt_past s i (by simpa using h)]
      have h2 : s.get! (0 + i) = 0 := by
        rw [Nat.zero_add]
        simp [ByteArray.get!, getElem!_neg, h]
        rfl
      rw [h2]
      rfl
  have e0 := e 0
  have e1 := e 1
  have e2 := e 2
  have e3 := e 3
  rw [Nat.add_zero] at e0
  rw [e0, e1, e2, e3]
  exact rn_decode _ _ _ _ _ (bn_lt s 0) (bn_lt s 1) (bn_lt s 2) (bn_lt s 3) hp
end Go.Proofs.YtamkkdeloknjiaaGreatDoor

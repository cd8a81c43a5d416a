/- Plain facts on texts and characters, for a program that lacks the reference's readers of characters. -/
import Derived.Test.YtlfmgidpdmmpkaaGreatDoorB
import Derived.Test.YtlfmgidpdmmpkaaGreatDoorRune
import Derived.Test.YtlfmgidpdmmpkaaGreatDoorUqAny
import Derived.Shelf.Unicode.DecodeSlow
import Derived.Lib.AppendStr
import Derived.Deep.QuietTactic
import Derived.BigQuiet
namespace Go.Proofs.YtlfmgidpdmmpkaaGreatDoor
open Go Go.RowKit Go.Proofs.YtlfmgidpdmmpkaaGreatDoorW.PrintWords
set_option linter.unusedVariables false
set_option linter.unusedSimpArgs false

/-- A byte of a text as a natural number. -/
def bn (s : ByteArray) (i : Int) : Nat := (bt s i).toNat
theorem bn_bt (s : ByteArray) (i : Int) : ((bn s i : Nat) : Int) = bt s i := by
  unfold bn
  have := bt_range s i
  omega
theorem bn_lt (s : ByteArray) (i : Int) : bn s i < 256 := by
  unfold bn
  have := bt_range s i
  omega
/-- The character at the front of a text. -/
def rnS (s : ByteArray) : Nat × Nat := rnN s.size (bn s 0) (bn s 1) (bn s 2) (bn s 3)
def pr (p : Nat × Nat) : Int × Int := ((p.1 : Int), (p.2 : Int))
/-- A text of which each character is one. -/
inductive VT : ByteArray → Prop
  | none (s : ByteArray) (h : s.size = 0) : VT s
  | some (s : ByteArray) (h0 : 0 < s.size) (h1 : 0 < (rnS s).2) (h : VT (s.extract (rnS s).2 s.size)) : VT s
theorem vt_step (s : ByteArray) (h : VT s) (h0 : 0 < s.size) : 0 < (rnS s).2 ∧ VT (s.extract (rnS s).2 s.size) := by
  cases h with
  | none _ h => omega
  | some _ _ h1 h => exact ⟨h1, h⟩
theorem rnS_le (s : ByteArray) : (rnS s).2 ≤ s.size := (rn_le _ _ _ _ _).1
theorem size_cut (s : ByteArray) (a : Nat) : (s.extract a s.size).size = s.size - a := by rw [ByteArray.size_extract]; omega
/-- The bytes of a part of a text. -/
theorem bt_cut (s : ByteArray) (a b : Nat) (i : Nat) (h : i < b - a) (hb : b ≤ s.size) : bt (s.extract a b) i = bt s (a + i : Nat) := by
  have h1 := bt_at (s.extract a b) i (by simp only [Int.toNat_natCast, ByteArray.size_extract]; omega)
  have h2 := bt_at s (a + i : Nat) (by simp only [Int.toNat_natCast]; omega)
  rw [← h1, ← h2]
  simp only [Int.toNat_natCast]
  rw [ByteArray.getElem_extract]
theorem bt_past (s : ByteArray) (i : Int) (h : ¬ i.toNat < s.size) : bt s i = 0 := by unfold bt; rw [dif_neg h]

/-- What the decoder gives at a text whose first character is one. -/
theorem dec_rn (s : ByteArray) (h0 : 0 < s.size) (hp : 0 < (rnS s).2) : Lib.decodeGo s = rnS s := by
  unfold Lib.decodeGo
  rw [if_neg (by omega), Lib.decode_at]
  have e : ∀ i : Nat, (s.get! (0 + i)).toNat = bn s i := by
    intro i
    unfold bn
    by_cases h : i < s.size
    · have h1 := bt_at s i (by simpa using h)
      rw [← h1]
      simp only [Int.toNat_natCast, Nat.zero_add]
      have h2 : s.get! i = s[i]'h := by
        have hd : i < s.data.size := h
        simp [ByteArray.get!, getElem!_pos, h]
        rfl
      rw [h2]
    · rw [bt_past s i (by simpa using h)]
      have h2 : s.get! (0 + i) = 0 := by
        rw [Nat.zero_add]
        simp [ByteArray.get!, getElem!_neg, h]
        rfl
      rw [h2]
      rfl
  have e0 := e 0
  have e1 := e 1
  have e2 := e 2
  have e3 := e 3
  rw [Nat.add_zero] at e0
  rw [e0, e1, e2, e3]
  exact rn_decode _ _ _ _ _ (bn_lt s 0) (bn_lt s 1) (bn_lt s 2) (bn_lt s 3) hp

theorem below_iter (w : World) (s : ByteArray) (p : Nat) : Below w.heap.size w (w.iter s p) := below_alloc (Below.refl _ _) _

theorem mid_bytes (S : ByteArray) (a n k : Nat) (h : k < n) (hn : a + n ≤ S.size) : (((bytesOf S).drop a).take n).drop k = bt S (a + k : Nat) :: (((bytesOf S).drop a).take n).drop (k + 1) := by
  have hd := drop_bytes S (a + k) (by omega)
  rw [List.drop_take, List.drop_drop, hd, List.drop_take, List.drop_drop, show n - k = (n - (k + 1)) + 1 by omega, List.take_succ_cons, show a + k + 1 = a + (k + 1) by omega]
theorem mid_end (S : ByteArray) (a n : Nat) : (((bytesOf S).drop a).take n).drop n = [] := List.drop_eq_nil_of_le (by simp; omega)
theorem pow_step (b x d p : Int) (hb : 0 < b) (h : 0 ≤ x ∧ x < p) (hd : 0 ≤ d ∧ d < b) : 0 ≤ x * b + d ∧ x * b + d < p * b := by
  have h1 := Int.mul_nonneg h.1 (Int.le_of_lt hb)
  have h2 : (x + 1) * b ≤ p * b := Int.mul_le_mul_of_nonneg_right (by omega) (Int.le_of_lt hb)
  rw [Int.add_mul] at h2
  omega

end Go.Proofs.YtlfmgidpdmmpkaaGreatDoor

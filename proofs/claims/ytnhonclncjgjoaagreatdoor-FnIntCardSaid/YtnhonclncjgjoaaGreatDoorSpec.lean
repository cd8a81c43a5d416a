/- Joined of: Spec Num. -/
import Derived.Test.YtnhonclncjgjoaaGreatDoorB
import Derived.Test.YtnhonclncjgjoaaGreatDoorPs0
import Derived.Test.YtnhonclncjgjoaaGreatDoorPs1
import Derived.Test.YtnhonclncjgjoaaGreatDoorPs2
import Derived.Test.YtnhonclncjgjoaaGreatDoorPs3
namespace Go.Proofs.YtnhonclncjgjoaaGreatDoor
open Go Go.RowKit Go.Proofs.YtnhonclncjgjoaaGreatDoorW.PrintWords Ps
set_option linter.unusedVariables false
set_option linter.unusedSimpArgs false

theorem w64 {x : Int} (h0 : -9223372036854775808 ≤ x) (h1 : x ≤ 9223372036854775807) : wrap64 x = x := by unfold wrap64; omega

theorem snoc_ind {P : List Int → Prop} (h0 : P []) (h1 : ∀ l x, P l → P (l ++ [x])) (l : List Int) : P l := by
  have h : ∀ m : List Int, P m.reverse := by
    intro m
    induction m with
    | nil => exact h0
    | cons a t ih => rw [List.reverse_cons]; exact h1 _ _ ih
  have h2 := h l.reverse
  rwa [List.reverse_reverse] at h2

/-- A list without the zeros at its end. -/
def trimL (l : List Int) : List Int := (l.reverse.dropWhile (· == 0)).reverse
theorem trimL_snoc0 (l : List Int) : trimL (l ++ [0]) = trimL l := by simp [trimL]
theorem trimL_snoc (l : List Int) (x : Int) (h : x ≠ 0) : trimL (l ++ [x]) = l ++ [x] := by
  have : (x == 0) = false := by simpa using h
  simp [trimL, this]

theorem trim_ev (d : Nat) : ∀ (l : List Int) (k : Nat), l.length = d → d ≤ 1000000 → d < k → spec_trim.f k l = some (trimL l) := by
  induction d with
  | zero =>
    intro l k hl hd hk
    obtain ⟨k, rfl⟩ : ∃ m, k = m + 1 := ⟨k - 1, by omega⟩
    obtain rfl : l = [] := List.eq_nil_of_length_eq_zero hl
    simp [spec_trim.f, spec_trim.l0, trimL]
  | succ d ih =>
    intro l k hl hd hk
    obtain ⟨k, rfl⟩ : ∃ m, k = m + 1 := ⟨k - 1, by omega⟩
    obtain ⟨l', x, rfl⟩ : ∃ l' x, l = l' ++ [x] := ⟨l.dropLast, l.getLast (by intro e; rw [e] at hl; simp at hl), (List.dropLast_concat_getLast _).symm⟩
    have hl' : l'.length = d := by simpa using hl
    have hw : wrap64 (((l' ++ [x]).length : Int) - 1) = (d : Int) := by
      rw [w64 (by omega) (by omega), hl]; omega
    have hr : rd (l' ++ [x]) (d : Int) = x := by simp [rd, hl', List.getD_eq_getElem?_getD]
    simp only [spec_trim.f, spec_trim.l0]
    rw [if_pos (by omega), hw, if_pos (by omega), if_pos (by omega), hr]
    by_cases h0 : x = 0
    · rw [if_pos h0, if_pos (by omega)]
      have : (l' ++ [x]).take (d : Int).toNat = l' := by simp [← hl']
      rw [this, h0, trimL_snoc0]
      exact ih l' k hl' (by omega) (by omega)
    · rw [if_neg h0, trimL_snoc l' x h0]

/-- The four digits of a word. -/
def dg (w : Int) (j : Nat) : Int := w / 65536 ^ j % 65536
def dig4 (w : Int) : List Int := [dg w 0, dg w 1, dg w 2, dg w 3]
theorem dg_range (w : Int) (j : Nat) : 0 ≤ dg w j ∧ dg w j < 65536 := by unfold dg; exact ⟨Int.emod_nonneg _ (by decide), Int.emod_lt_of_pos _ (by decide)⟩

theorem and_mask (x : Int) (h0 : 0 ≤ x) (h1 : x < 18446744073709551616) : Go.bits .and .u64 x 65535 = x % 65536 := by
  obtain ⟨n, rfl⟩ := Int.eq_ofNat_of_zero_le h0
  have := u64_and_nat n 65535 (by omega) (by omega)
  have e : ((65535 : Nat) : Int) = 65535 := rfl
  rw [e] at this
  rw [this]
  have h2 : n &&& 65535 = n % 65536 := Nat.and_two_pow_sub_one_eq_mod n 16
  rw [h2]
  omega

theorem digit_word (w : Int) (j : Nat) (hj : j < 4) (h0 : 0 ≤ w) (h1 : w < 18446744073709551616) : wrap64 (Go.bits .and .u64 (shr .u64 w (wrap64 (16 * (j : Int)))) 65535) = dg w j := by
  have hs : shr .u64 w (wrap64 (16 * (j : Int))) = w / 65536 ^ j := by
    rw [w64 (by omega) (by omega)]
    have h := shr_small (k := .u64) (x := w) (y := 16 * (j : Int)) rfl (by simp [IntKind.bits]; omega)
    rw [← h]
    have e : (16 * (j : Int)).toNat = 16 * j := by omega
    rw [e, Int.pow_mul]
    rfl
  rw [hs]
  have hr := dg_range w j
  have hq0 : 0 ≤ w / 65536 ^ j := Int.ediv_nonneg h0 (by have : (0 : Int) < 65536 ^ j := Int.pow_pos (by decide); omega)
  have hq1 : w / 65536 ^ j ≤ w := Int.ediv_le_self _ h0
  rw [and_mask _ hq0 (by omega)]
  unfold dg at hr ⊢
  exact w64 (by omega) (by omega)

/-- The digits of words, the zeros at the end left out: what 'Of' hands back. -/
def digs (ws : List Int) : List Int := (ws.map dig4).flatten
theorem digs_snoc (ws : List Int) (w : Int) : digs (ws ++ [w]) = digs ws ++ dig4 w := by simp [digs]
theorem digs_length (ws : List Int) : (digs ws).length = 4 * ws.length := by
  induction ws with
  | nil => rfl
  | cons a t ih => simp only [digs, List.map_cons, List.flatten_cons, List.length_append, List.length_cons] at ih ⊢; rw [show (dig4 a).length = 4 from rfl]; omega

theorem of_inner (k : Nat) (x3 : List Int) (w : Int) (l : List Int) (n i : Int) (h3 : x3.length ≤ 1000000) (h0 : 0 ≤ w) (h1 : w < 18446744073709551616) :
    spec_Of.l1 (k + 5) x3 w 0 l n i = spec_Of.l0 k (x3 ++ dig4 w) l n (wrap64 (i + 1)) := by
  have step : ∀ (m j : Nat) (y : List Int), j < 4 → y.length ≤ 1000010 → spec_Of.l1 (m + 1) y w (j : Int) l n i = spec_Of.l1 m (y ++ [dg w j]) w ((j + 1 : Nat) : Int) l n i := by
    intro m j y hj hy
    simp only [spec_Of.l1]
    rw [if_pos (by omega), if_pos (by rw [w64 (by omega) (by omega)]; omega), if_pos (by omega), digit_word w j hj h0 h1]
    rw [show wrap64 ((j : Int) + 1) = ((j + 1 : Nat) : Int) from by rw [w64 (by omega) (by omega)]; omega]
  have e0 := step (k + 4) 0 x3 (by omega) (by omega)
  have e1 := step (k + 3) 1 (x3 ++ [dg w 0]) (by omega) (by simp; omega)
  have e2 := step (k + 2) 2 (x3 ++ [dg w 0] ++ [dg w 1]) (by omega) (by simp; omega)
  have e3 := step (k + 1) 3 (x3 ++ [dg w 0] ++ [dg w 1] ++ [dg w 2]) (by omega) (by simp; omega)
  have z : ((0 : Nat) : Int) = 0 := rfl
  rw [z] at e0
  rw [e0, e1, e2, e3]
  simp only [spec_Of.l1]
  rw [if_neg (by omega)]
  simp [dig4]

theorem of_loop (ws : List Int) (hw : ∀ w ∈ ws, 0 ≤ w ∧ w < 18446744073709551616) (hn : ws.length ≤ 1000) (d : Nat) : ∀ (i k : Nat), i + d = ws.length → 6 * d + 5000 < k →
    spec_Of.l0 k (digs (ws.take i)) ws (ws.length : Int) (i : Int) = some (trimL (digs ws)) := by
  induction d with
  | zero =>
    intro i k hi hk
    obtain ⟨k, rfl⟩ : ∃ m, k = m + 1 := ⟨k - 1, by omega⟩
    simp only [spec_Of.l0]
    have hl := digs_length ws
    rw [if_neg (by omega), List.take_of_length_le (by omega), trim_ev _ _ _ rfl (by omega) (by omega)]
    rfl
  | succ d ih =>
    intro i k hi hk
    obtain ⟨k, rfl⟩ : ∃ m, k = m + 6 := ⟨k - 6, by omega⟩
    have hlt : i < ws.length := by omega
    have hr : rd ws (i : Int) = ws[i] := by simp [rd, List.getD_eq_getElem?_getD, hlt]
    have hm := hw ws[i] (List.getElem_mem hlt)
    have hl := digs_length (ws.take i)
    simp only [spec_Of.l0]
    rw [if_pos (by omega), if_pos (by omega), if_pos (by omega), hr, of_inner k _ _ _ _ _ (by simp at hl; omega) hm.1 hm.2]
    rw [show wrap64 ((i : Int) + 1) = ((i + 1 : Nat) : Int) from by rw [w64 (by omega) (by omega)]; omega]
    rw [← digs_snoc, ← List.take_succ_eq_append_getElem hlt]
    exact ih (i + 1) k (by omega) (by omega)

theorem of_ev (ws : List Int) (hw : ∀ w ∈ ws, 0 ≤ w ∧ w < 18446744073709551616) (hn : ws.length ≤ 1000) : spec_Of.f 20000 ws = some (trimL (digs ws)) := by
  have := of_loop ws hw hn ws.length 0 20000 (by omega) (by omega)
  simpa [spec_Of.f, digs] using this

theorem small_one : spec_Small.f 20000 1 = some [1] := by
  have h : ∀ k, spec_Small.f (k + 2) 1 = some [1] := by
    intro k
    simp only [spec_Small.f, spec_Small.l0]
    rw [if_pos (by decide), if_pos (by decide), if_neg (by rw [w64 (by decide) (by decide)]; decide)]
    rfl
  exact h 19998

theorem cmp_self (l : List Int) (hn : l.length ≤ 100000) (d : Nat) : ∀ (i : Int) (k : Nat), i + 1 = d → d ≤ l.length → d < k → spec_Cmp.l0 k l l i = some 0 := by
  induction d with
  | zero =>
    intro i k hi hd hk
    obtain ⟨k, rfl⟩ : ∃ m, k = m + 1 := ⟨k - 1, by omega⟩
    simp only [spec_Cmp.l0]
    rw [if_neg (by omega)]
  | succ d ih =>
    intro i k hi hd hk
    obtain ⟨k, rfl⟩ : ∃ m, k = m + 1 := ⟨k - 1, by omega⟩
    simp only [spec_Cmp.l0]
    rw [if_pos (by omega), if_pos (by omega), if_pos (by omega), if_pos (by omega), if_neg (by omega), if_neg (by omega), w64 (by omega) (by omega)]
    exact ih (i - 1) k (by omega) (by omega) (by omega)
theorem cmp_same (l : List Int) (hn : l.length ≤ 10000) : spec_Cmp.f 20000 l l = some 0 := by
  unfold spec_Cmp.f
  rw [if_neg (by omega), if_neg (by omega), w64 (by omega) (by omega)]
  exact cmp_self l (by omega) l.length _ _ (by omega) (by omega) (by omega)
theorem same_same (b : Bool) (l m : List Int) (hl : l.length ≤ 10000) (hm : m.length ≤ 10000) : spec_same.f 20000 b l m b l m = some true := by
  unfold spec_same.f
  rw [if_pos (by simp), cmp_same l hl]
  simp only [Option.bind_some, if_true]
  rw [cmp_same m hm]
  rfl

/-- The words of digits. -/
def wl : List Int → List Int
  | [] => []
  | [a] => [a]
  | [a, b] => [a + b * 65536]
  | [a, b, c] => [a + b * 65536 + c * 4294967296]
  | a :: b :: c :: d :: t => (a + b * 65536 + c * 4294967296 + d * 281474976710656) :: wl t
def pw (j : Nat) : Int := 65536 ^ j
theorem pw_pos (j : Nat) : 0 < pw j := Int.pow_pos (by decide)
theorem wl_length : ∀ l : List Int, (wl l).length = (l.length + 3) / 4
  | [] => rfl
  | [a] => by simp [wl]
  | [a, b] => by simp [wl]
  | [a, b, c] => by simp [wl]
  | a :: b :: c :: d :: t => by simp only [wl, List.length_cons, wl_length t]; omega
theorem wl_snoc0 : ∀ (l : List Int) (x : Int), l.length % 4 = 0 → wl (l ++ [x]) = wl l ++ [x]
  | [], x, _ => rfl
  | [a], x, h => by simp at h
  | [a, b], x, h => by simp at h
  | [a, b, c], x, h => by simp at h
  | a :: b :: c :: d :: t, x, h => by
    simp only [List.length_cons] at h
    simp only [List.cons_append, wl, wl_snoc0 t x (by omega)]
theorem wl_snoc : ∀ (l : List Int) (x : Int), l.length % 4 ≠ 0 → wl (l ++ [x]) = (wl l).set (l.length / 4) ((wl l).getD (l.length / 4) 0 + x * pw (l.length % 4))
  | [], x, h => by simp at h
  | [a], x, h => by simp [wl, pw]
  | [a, b], x, h => by simp [wl, pw]
  | [a, b, c], x, h => by simp [wl, pw]
  | a :: b :: c :: d :: t, x, h => by
    simp only [List.length_cons] at h ⊢
    have e1 : (t.length + 1 + 1 + 1 + 1) / 4 = t.length / 4 + 1 := by omega
    have e2 : (t.length + 1 + 1 + 1 + 1) % 4 = t.length % 4 := by omega
    rw [e1, e2]
    simp only [List.cons_append, wl, wl_snoc t x (by omega), List.set_cons_succ, List.getD_cons_succ]
theorem wl_part : ∀ (l : List Int), (∀ x ∈ l, 0 ≤ x ∧ x < 65536) → l.length % 4 ≠ 0 → 0 ≤ (wl l).getD (l.length / 4) 0 ∧ (wl l).getD (l.length / 4) 0 < pw (l.length % 4)
  | [], _, h => by simp at h
  | [a], hx, h => by simp [wl, pw]; have := hx a (by simp); omega
  | [a, b], hx, h => by simp [wl, pw]; have := hx a (by simp); have := hx b (by simp); omega
  | [a, b, c], hx, h => by simp [wl, pw]; have := hx a (by simp); have := hx b (by simp); have := hx c (by simp); omega
  | a :: b :: c :: d :: t, hx, h => by
    simp only [List.length_cons] at h ⊢
    have e1 : (t.length + 1 + 1 + 1 + 1) / 4 = t.length / 4 + 1 := by omega
    have e2 : (t.length + 1 + 1 + 1 + 1) % 4 = t.length % 4 := by omega
    rw [e1, e2]
    simp only [wl, List.getD_cons_succ]
    exact wl_part t (fun x h => hx x (by simp [h])) (by omega)

theorem or_part (a x : Int) (j : Nat) (hj : j < 4) (ha0 : 0 ≤ a) (ha : a < pw j) (hx0 : 0 ≤ x) (hx : x < 65536) :
    Go.bits .or .u64 a (shl .u64 (IntKind.u64.wrap x) (wrap64 (16 * (j : Int)))) = a + x * pw j := by
  have hw : IntKind.u64.wrap x = x := by rw [IntKind.wrap_u64]; omega
  rw [hw, w64 (by omega) (by omega)]
  have h := shl_small (k := .u64) (x := x) (y := 16 * (j : Int)) rfl (by simp [IntKind.bits]; omega)
  rw [← h]
  have e : (16 * (j : Int)).toNat = 16 * j := by omega
  rw [e, Int.pow_mul]
  have e2 : ((2 : Int) ^ 16) ^ j = pw j := rfl
  rw [e2]
  obtain ⟨p, hp, hp1⟩ : ∃ p : Nat, pw j = (p : Int) ∧ p = 2 ^ (16 * j) := ⟨2 ^ (16 * j), by rw [← e2, ← Int.pow_mul]; exact (Int.natCast_pow 2 (16 * j)).symm, rfl⟩
  have hp2 : p ≤ 281474976710656 := by rw [hp1]; exact Nat.pow_le_pow_right (n := 2) (by decide) (show 16 * j ≤ 48 by omega)
  rw [hp] at ha ⊢
  obtain ⟨m, rfl⟩ := Int.eq_ofNat_of_zero_le ha0
  obtain ⟨n, rfl⟩ := Int.eq_ofNat_of_zero_le hx0
  have hnp : n * p ≤ 65535 * 281474976710656 := Nat.mul_le_mul (by omega) hp2
  have hc : ((n : Int) * (p : Int)) = ((n * p : Nat) : Int) := by simp
  rw [hc, IntKind.wrap_u64, Int.emod_eq_of_lt (by omega) (by omega), u64_or_nat m (n * p) (by omega) (by omega)]
  have ho : m ||| (n * p) = m + n * p := by
    rw [Nat.or_comm, Nat.mul_comm n p, hp1, ← Nat.two_pow_add_eq_or_of_lt (by omega) n]
    omega
  rw [ho]
  omega

theorem tm4 (i : Nat) : Int.tmod (i : Int) 4 = ((i % 4 : Nat) : Int) := by rw [Int.tmod_eq_emod_of_nonneg (by omega)]; omega
theorem td4 (i : Nat) (h : i < 100000) : wrap64 (Int.tdiv (i : Int) 4) = ((i / 4 : Nat) : Int) := by
  rw [Int.tdiv_eq_ediv_of_nonneg (by omega), w64 (by omega) (by omega)]; omega
theorem inc64 (i : Nat) (h : i < 100000) : wrap64 ((i : Int) + 1) = ((i + 1 : Nat) : Int) := by rw [w64 (by omega) (by omega)]; omega

theorem words_loop (l : List Int) (hl : ∀ x ∈ l, 0 ≤ x ∧ x < 65536) (hn : l.length ≤ 4000) (d : Nat) : ∀ (i k : Nat), i + d = l.length → d < k →
    spec_Words.l0 k (wl (l.take i)) l (l.length : Int) (i : Int) = some (wl l) := by
  induction d with
  | zero =>
    intro i k hi hk
    obtain ⟨k, rfl⟩ : ∃ m, k = m + 1 := ⟨k - 1, by omega⟩
    simp only [spec_Words.l0]
    rw [if_neg (by omega), List.take_of_length_le (by omega)]
  | succ d ih =>
    intro i k hi hk
    obtain ⟨k, rfl⟩ : ∃ m, k = m + 1 := ⟨k - 1, by omega⟩
    have hlt : i < l.length := by omega
    have c1 : (i : Int) < (l.length : Int) := by omega
    have c2 : (0 : Int) ≤ (i : Int) := by omega
    have c3 : i < 100000 := by omega
    have hr : rd l (i : Int) = l[i] := by simp [rd, List.getD_eq_getElem?_getD, hlt]
    have hm := hl l[i] (List.getElem_mem hlt)
    have hti : (l.take i).length = i := by simp; omega
    have hwl := wl_length (l.take i)
    rw [hti] at hwl
    have hsucc := List.take_succ_eq_append_getElem hlt
    have hnext := ih (i + 1) k (by omega) (by omega)
    unfold spec_Words.l0
    rw [if_pos c1, if_pos c2, if_pos c1, tm4, td4 i c3, hr]
    rw [inc64 i c3]
    by_cases h0 : i % 4 = 0
    · rw [if_pos (by omega), if_pos (by omega)]
      simp only [Option.bind_some]
      rw [if_pos (by omega), if_pos (by simp; omega), if_pos (by rw [w64 (by omega) (by omega)]; omega)]
      have hz : rd (wl (l.take i) ++ [0]) ((i / 4 : Nat) : Int) = 0 := by
        simp only [rd, Int.toNat_natCast]
        rw [show i / 4 = (wl (l.take i)).length from by omega]
        simp [List.getD_eq_getElem?_getD]
      have ho := or_part 0 l[i] (i % 4) (by omega) (by omega) (pw_pos _) hm.1 hm.2
      rw [hz, ho]
      have hset : (wl (l.take i) ++ [0]).set ((i / 4 : Nat) : Int).toNat (0 + l[i] * pw (i % 4)) = wl (l.take (i + 1)) := by
        rw [hsucc, wl_snoc0 _ _ (by rw [hti]; exact h0), h0]
        simp only [Int.toNat_natCast]
        rw [show i / 4 = (wl (l.take i)).length from by omega]
        simp [pw]
      rw [hset]
      exact hnext
    · rw [if_neg (by omega), if_pos (by omega), if_pos (by omega), if_pos (by rw [w64 (by omega) (by omega)]; omega)]
      have hp := wl_part (l.take i) (fun x hx => hl x (List.mem_of_mem_take hx)) (by rw [hti]; exact h0)
      rw [hti] at hp
      have hrd : rd (wl (l.take i)) ((i / 4 : Nat) : Int) = (wl (l.take i)).getD (i / 4) 0 := by unfold rd; rw [Int.toNat_natCast]
      have ho := or_part _ l[i] (i % 4) (by omega) hp.1 hp.2 hm.1 hm.2
      rw [hrd, ho]
      have hset := wl_snoc (l.take i) l[i] (by rw [hti]; exact h0)
      rw [hti, ← hsucc] at hset
      rw [Int.toNat_natCast, ← hset]
      exact hnext
theorem words_ev (l : List Int) (hl : ∀ x ∈ l, 0 ≤ x ∧ x < 65536) (hn : l.length ≤ 4000) : spec_Words.f 20000 l = some (wl l) := by
  have := words_loop l hl hn l.length 0 20000 (by omega) (by omega)
  simpa [spec_Words.f, wl] using this

/-- Words that are a number's: each a word, the last one not 0. -/
def Normal (ws : List Int) : Prop := (∀ w ∈ ws, 0 ≤ w ∧ w < 18446744073709551616) ∧ ∀ (h : ws ≠ []), ws.getLast h ≠ 0

theorem wl_append4 : ∀ (l m : List Int), l.length % 4 = 0 → wl (l ++ m) = wl l ++ wl m
  | [], m, _ => rfl
  | [a], m, h => by simp at h
  | [a, b], m, h => by simp at h
  | [a, b, c], m, h => by simp at h
  | a :: b :: c :: d :: t, m, h => by
    simp only [List.length_cons] at h
    simp only [List.cons_append, wl, wl_append4 t m (by omega)]
theorem wl_dig4 (w : Int) (h0 : 0 ≤ w) (h1 : w < 18446744073709551616) : dg w 0 + dg w 1 * 65536 + dg w 2 * 4294967296 + dg w 3 * 281474976710656 = w := by
  unfold dg
  simp only [show (65536 : Int) ^ 0 = 1 from rfl, show (65536 : Int) ^ 1 = 65536 from rfl, show (65536 : Int) ^ 2 = 4294967296 from rfl, show (65536 : Int) ^ 3 = 281474976710656 from rfl]
  omega
theorem trimL_append (l m : List Int) (h : trimL m ≠ []) : trimL (l ++ m) = l ++ trimL m := by
  induction m using snoc_ind with
  | h0 => simp [trimL] at h
  | h1 m x ih =>
    rw [← List.append_assoc]
    by_cases hx : x = 0
    · subst hx
      rw [trimL_snoc0, trimL_snoc0] at *
      exact ih h
    · rw [trimL_snoc _ _ hx, trimL_snoc _ _ hx, List.append_assoc]
theorem wl_trim4 (w : Int) (h0 : 0 ≤ w) (h1 : w < 18446744073709551616) (hw : w ≠ 0) : trimL (dig4 w) ≠ [] ∧ wl (trimL (dig4 w)) = [w] := by
  have hs := wl_dig4 w h0 h1
  have e : dig4 w = [dg w 0, dg w 1, dg w 2] ++ [dg w 3] := rfl
  by_cases h3 : dg w 3 = 0
  · rw [e, h3, trimL_snoc0, show [dg w 0, dg w 1, dg w 2] = [dg w 0, dg w 1] ++ [dg w 2] from rfl]
    by_cases h2 : dg w 2 = 0
    · rw [h2, trimL_snoc0, show [dg w 0, dg w 1] = [dg w 0] ++ [dg w 1] from rfl]
      by_cases h4 : dg w 1 = 0
      · rw [h4, trimL_snoc0, show [dg w 0] = [] ++ [dg w 0] from rfl]
        by_cases h5 : dg w 0 = 0
        · omega
        · rw [trimL_snoc _ _ h5]
          exact ⟨by simp, by simp [wl]; omega⟩
      · rw [trimL_snoc _ _ h4]
        exact ⟨by simp, by simp [wl]; omega⟩
    · rw [trimL_snoc _ _ h2]
      exact ⟨by simp, by simp [wl]; omega⟩
  · rw [e, trimL_snoc _ _ h3]
    exact ⟨by simp, by simp [wl]; omega⟩
theorem wl_map (ws : List Int) (h : ∀ w ∈ ws, 0 ≤ w ∧ w < 18446744073709551616) : wl (digs ws) = ws := by
  induction ws with
  | nil => rfl
  | cons a t ih =>
    have ha := h a (by simp)
    have e : digs (a :: t) = dg a 0 :: dg a 1 :: dg a 2 :: dg a 3 :: digs t := by simp [digs, dig4]
    rw [e, wl, wl_dig4 a ha.1 ha.2, ih (fun w hw => h w (by simp [hw]))]
theorem wl_digs (ws : List Int) (h : Normal ws) : wl (trimL (digs ws)) = ws := by
  induction ws using snoc_ind with
  | h0 => rfl
  | h1 t w _ =>
    have hw := h.1 w (by simp)
    have hl : w ≠ 0 := by have := h.2 (by simp); simpa using this
    have h4 := wl_trim4 w hw.1 hw.2 hl
    rw [digs_snoc, trimL_append _ _ h4.1, wl_append4 _ _ (by rw [digs_length]; omega), wl_map t (fun x hx => h.1 x (by simp [hx])), h4.2]
theorem trimL_mem (l : List Int) : ∀ x ∈ trimL l, x ∈ l := by
  intro x hx
  unfold trimL at hx
  have := List.mem_reverse.1 hx
  exact List.mem_reverse.1 ((List.dropWhile_sublist _).subset this)
theorem trimL_length (l : List Int) : (trimL l).length ≤ l.length := by
  unfold trimL
  have := (List.dropWhile_sublist (l := l.reverse) (fun x => x == 0)).length_le
  simpa using this
theorem digs_range (ws : List Int) : ∀ x ∈ trimL (digs ws), 0 ≤ x ∧ x < 65536 := by
  intro x hx
  have := trimL_mem _ x hx
  simp only [digs, List.mem_flatten, List.mem_map] at this
  obtain ⟨y, ⟨a, _, rfl⟩, hy⟩ := this
  simp only [dig4, List.mem_cons, List.not_mem_nil, or_false] at hy
  rcases hy with rfl | rfl | rfl | rfl <;> exact dg_range _ _
theorem has_loop (l : List Int) (hn : l.length ≤ 10000) (d : Nat) : ∀ (i k : Nat), i + d = l.length → d < k → spec_HasWords.l0 k l l (l.length : Int) (i : Int) = some true := by
  induction d with
  | zero =>
    intro i k hi hk
    obtain ⟨k, rfl⟩ : ∃ m, k = m + 1 := ⟨k - 1, by omega⟩
    simp only [spec_HasWords.l0]
    rw [if_neg (by omega)]
  | succ d ih =>
    intro i k hi hk
    obtain ⟨k, rfl⟩ : ∃ m, k = m + 1 := ⟨k - 1, by omega⟩
    have c1 : (i : Int) < (l.length : Int) := by omega
    have c2 : (0 : Int) ≤ (i : Int) := by omega
    unfold spec_HasWords.l0
    rw [if_pos c1, if_pos c2, if_pos c1, if_pos c1, if_pos rfl, inc64 i (by omega)]
    exact ih (i + 1) k (by omega) (by omega)
theorem has_ev (ws : List Int) (h : Normal ws) (hn : ws.length ≤ 900) : spec_HasWords.f 20000 ws (trimL (digs ws)) = some true := by
  have hl := digs_length ws
  have ht := trimL_length (digs ws)
  unfold spec_HasWords.f
  rw [words_ev _ (digs_range ws) (by omega), wl_digs ws h]
  simp only [Option.bind_some, if_true]
  exact has_loop ws (by omega) ws.length 0 20000 (by omega) (by omega)
end Go.Proofs.YtnhonclncjgjoaaGreatDoor

namespace Go.Proofs.YtnhonclncjgjoaaGreatDoor
open Go Go.RowKit Go.Proofs.YtnhonclncjgjoaaGreatDoorW.PrintWords Ps
set_option linter.unusedVariables false
set_option linter.unusedSimpArgs false

/-- A number by its words of 64 bits, the lowest first. -/
def valW : List Int → Int
  | [] => 0
  | x :: t => x + 18446744073709551616 * valW t
/-- A number by its digits of 16 bits, the lowest first. -/
def valD : List Int → Int
  | [] => 0
  | x :: t => x + 65536 * valD t
def InW (l : List Int) : Prop := ∀ x ∈ l, 0 ≤ x ∧ x < 18446744073709551616
def InD (l : List Int) : Prop := ∀ x ∈ l, 0 ≤ x ∧ x < 65536
theorem valD_append (a b : List Int) : valD (a ++ b) = valD a + 65536 ^ a.length * valD b := by
  induction a with
  | nil => simp [valD]
  | cons x t ih =>
    simp only [List.cons_append, valD, ih, List.length_cons, Int.pow_succ]
    rw [Int.mul_add, Int.add_assoc, ← Int.mul_assoc, Int.mul_comm 65536 (65536 ^ t.length)]
theorem valD_nonneg {l : List Int} (h : InD l) : 0 ≤ valD l := by
  induction l with
  | nil => exact Int.le_refl _
  | cons x t ih =>
    have := h x (by simp)
    have := ih (fun y hy => h y (by simp [hy]))
    simp only [valD]; omega
theorem valD_dig4 (w : Int) (h0 : 0 ≤ w) (h1 : w < 18446744073709551616) : valD (dig4 w) = w := by
  simp only [dig4, valD, dg]
  have e1 : (65536 : Int) ^ 1 = 65536 := rfl
  have e2 : (65536 : Int) ^ 2 = 4294967296 := rfl
  have e3 : (65536 : Int) ^ 3 = 281474976710656 := rfl
  have e0 : (65536 : Int) ^ 0 = 1 := rfl
  rw [e0, e1, e2, e3]
  omega
theorem valD_digs {ws : List Int} (h : InW ws) : valD (digs ws) = valW ws := by
  induction ws with
  | nil => rfl
  | cons x t ih =>
    have hx := h x (by simp)
    have := ih (fun y hy => h y (by simp [hy]))
    have e : digs (x :: t) = dig4 x ++ digs t := by simp [digs]
    rw [e, valD_append, valD_dig4 x hx.1 hx.2, this, show (dig4 x).length = 4 from rfl, show (65536 : Int) ^ 4 = 18446744073709551616 from by decide]
    simp only [valW]
theorem valD_trim (l : List Int) : valD (trimL l) = valD l := by
  induction l using snoc_ind with
  | h0 => rfl
  | h1 l x ih =>
    by_cases hx : x = 0
    · subst hx
      rw [trimL_snoc0, ih, valD_append]
      simp [valD]
    · rw [trimL_snoc l x hx]
theorem trimL_cons (x : Int) (t : List Int) (h : trimL (x :: t) = x :: t) : trimL t = t := by
  cases t using snoc_ind with
  | h0 => rfl
  | h1 l y _ =>
    by_cases hy : y = 0
    · subst hy
      rw [← List.cons_append, trimL_snoc0] at h
      have hl : (trimL (x :: l)).length ≤ (x :: l).length := by
        unfold trimL
        rw [List.length_reverse]
        exact Nat.le_trans (List.dropWhile_sublist _).length_le (by simp)
      rw [h] at hl
      simp only [List.length_cons, List.length_append, List.length_nil] at hl
      omega
    · exact trimL_snoc l y hy
theorem trim_zero {l : List Int} (hI : InD l) (hT : trimL l = l) (h : valD l = 0) : l = [] := by
  induction l with
  | nil => rfl
  | cons x t ih =>
    have hx := hI x (by simp)
    have ht : InD t := fun y hy => hI y (by simp [hy])
    have h0 := valD_nonneg ht
    simp only [valD] at h
    have e := ih ht (trimL_cons x t hT) (by omega)
    subst e
    have hx0 : x = 0 := by simp only [valD] at h; omega
    subst hx0
    exact absurd hT (by decide)
/-- Digits without zeros at the end are known by their number. -/
theorem valD_inj : ∀ (a b : List Int), InD a → InD b → trimL a = a → trimL b = b → valD a = valD b → a = b
  | [], b, _, hb, _, tb, h => (trim_zero hb tb (by rw [← h]; rfl)).symm
  | x :: t, [], ha, _, ta, _, h => trim_zero ha ta (by rw [h]; rfl)
  | x :: t, y :: u, ha, hb, ta, tb, h => by
    have hx := ha x (by simp)
    have hy := hb y (by simp)
    simp only [valD] at h
    have e := valD_inj t u (fun z hz => ha z (by simp [hz])) (fun z hz => hb z (by simp [hz])) (trimL_cons x t ta) (trimL_cons y u tb) (by omega)
    rw [e, show x = y by omega]

theorem valW_append (a b : List Int) : valW (a ++ b) = valW a + 18446744073709551616 ^ a.length * valW b := by
  induction a with
  | nil => simp [valW]
  | cons x t ih =>
    simp only [List.cons_append, valW, ih, List.length_cons, Int.pow_succ]
    rw [Int.mul_add, Int.add_assoc, ← Int.mul_assoc, Int.mul_comm 18446744073709551616 (18446744073709551616 ^ t.length)]
theorem valW_snoc (a : List Int) (x : Int) : valW (a ++ [x]) = valW a + 18446744073709551616 ^ a.length * x := by
  rw [valW_append]
  simp [valW]
theorem InW.snoc {l : List Int} {x : Int} (h : InW l) (h0 : 0 ≤ x) (h1 : x < 18446744073709551616) : InW (l ++ [x]) := by
  intro y hy
  rcases List.mem_append.1 hy with hy | hy
  · exact h y hy
  · rw [List.mem_singleton.1 hy]; exact ⟨h0, h1⟩
theorem take_next (xs : List Int) (i : Nat) (h : i < xs.length) : xs.take (i + 1) = xs.take i ++ [xs.getD i 0] := by
  rw [List.take_succ_eq_append_getElem h, List.getD_eq_getElem?_getD, List.getElem?_eq_getElem h]
  rfl
/-- One word more of a product. -/
theorem mul_step (P S T c l h x y r : Int) (h1 : S + P * c = T * y + r) (h2 : l + 18446744073709551616 * h = x * y + c) : S + P * l + P * 18446744073709551616 * h = (T + P * x) * y + r := by
  have h3 : P * (l + 18446744073709551616 * h) = P * (x * y + c) := by rw [h2]
  rw [Int.mul_add, Int.mul_add, ← Int.mul_assoc, ← Int.mul_assoc] at h3
  rw [Int.add_mul]
  generalize P * l = a at *
  generalize P * 18446744073709551616 * h = b at *
  generalize P * x * y = d at *
  generalize P * c = e at *
  generalize T * y = f at *
  omega
theorem valW_cut0 (ws : List Int) (i : Nat) (hi : i < ws.length) (h : ws.getD i 0 = 0) : valW (ws.take i) = valW (ws.take (i + 1)) := by
  rw [take_next ws i hi, valW_snoc, h, Int.mul_zero, Int.add_zero]
theorem normal_take (ws : List Int) (i : Nat) (hw : InW ws) (hi : i < ws.length) (h : ws.getD i 0 ≠ 0) : Normal (ws.take (i + 1)) := by
  refine ⟨fun x hx => hw x (List.mem_of_mem_take hx), ?_⟩
  intro hne
  have e := take_next ws i hi
  have : (ws.take (i + 1)).getLast hne = ws.getD i 0 := by
    simp only [e, List.getLast_append, List.getLast_singleton]
    simp
  rw [this]
  exact h
theorem normal_nil : Normal [] := ⟨by intro x hx; simp at hx, fun h => absurd rfl h⟩
end Go.Proofs.YtnhonclncjgjoaaGreatDoor

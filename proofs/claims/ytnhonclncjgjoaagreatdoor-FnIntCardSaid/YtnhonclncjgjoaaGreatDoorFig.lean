/- Joined of: Fig FigA FigB IntOf. -/
import Derived.Test.YtnhonclncjgjoaaGreatDoorSpec
import Derived.Test.YtnhonclncjgjoaaGreatDoorMulR
namespace Go.Proofs.YtnhonclncjgjoaaGreatDoor
open Go Go.RowKit Go.Proofs.YtnhonclncjgjoaaGreatDoorW.PrintWords Ps
set_option linter.unusedVariables false
set_option linter.unusedSimpArgs false

theorem small_ev (k : Nat) (x : Int) (h0 : 0 ≤ x) (h1 : x < 65536) : spec_Small.f (k + 2) x = some (if x = 0 then [] else [x]) := by
  simp only [spec_Small.f, spec_Small.l0]
  by_cases hx : x = 0
  · rw [if_neg (by omega), if_pos hx]
  · have e1 : Int.tdiv x 65536 = 0 := by rw [Int.tdiv_eq_ediv_of_nonneg h0]; omega
    have e2 : Int.tmod x 65536 = x := by rw [Int.tmod_eq_emod_of_nonneg h0]; omega
    rw [if_pos (by omega), if_pos (by decide), e1, e2, if_neg (by rw [w64 (by decide) (by decide)]; decide), if_neg hx]
    rfl
/-- Digits that hold a number. -/
def NumD (l : List Int) (x : Int) (L : Nat) : Prop := InD l ∧ trimL l = l ∧ valD l = x ∧ l.length ≤ L
theorem NumD.nil (L : Nat) : NumD [] 0 L := ⟨by intro x hx; simp at hx, rfl, rfl, Nat.zero_le _⟩
theorem inD_snoc {l : List Int} {x : Int} (h : InD l) (h0 : 0 ≤ x) (h1 : x < 65536) : InD (l ++ [x]) := by
  intro y hy
  rcases List.mem_append.1 hy with hy | hy
  · exact h y hy
  · rw [List.mem_singleton.1 hy]; exact ⟨h0, h1⟩
theorem trimL_idem (l : List Int) : trimL (trimL l) = trimL l := by
  induction l using snoc_ind with
  | h0 => rfl
  | h1 l x ih =>
    by_cases hx : x = 0
    · subst hx; rw [trimL_snoc0]; exact ih
    · rw [trimL_snoc l x hx, trimL_snoc l x hx]
theorem trimL_inD {l : List Int} (h : InD l) : InD (trimL l) := by
  intro x hx
  refine h x ?_
  unfold trimL at hx
  rw [List.mem_reverse] at hx
  exact List.mem_reverse.1 ((List.dropWhile_sublist _).mem hx)
theorem numD_trim {l : List Int} (h : InD l) (L : Nat) (hL : l.length ≤ L) : NumD (trimL l) (valD l) L :=
  ⟨trimL_inD h, trimL_idem l, valD_trim l, Nat.le_trans (trimL_length l) hL⟩
theorem valD_snoc (a : List Int) (x : Int) : valD (a ++ [x]) = valD a + 65536 ^ a.length * x := by
  rw [valD_append]
  simp [valD]
theorem rd_at (l : List Int) (i : Nat) : rd l (i : Int) = l.getD i 0 := by unfold rd; simp
theorem mul1_step (P S T c l h x y : Int) (h1 : S + P * c = T * y) (h2 : l + 65536 * h = c + x * y) : S + P * l + P * 65536 * h = (T + P * x) * y := by
  have h3 : P * (l + 65536 * h) = P * (c + x * y) := by rw [h2]
  rw [Int.mul_add, Int.mul_add, ← Int.mul_assoc, ← Int.mul_assoc] at h3
  rw [Int.add_mul]
  generalize P * l = a at *
  generalize P * 65536 * h = b at *
  generalize P * x * y = d at *
  generalize P * c = e at *
  generalize T * y = f at *
  omega
theorem set_mid (os t : List Int) (c v : Int) (i : Nat) (h : os.length = i) : (os ++ c :: t).set i v = os ++ v :: t := by
  subst h
  rw [List.set_append_right _ _ (Nat.le_refl _), Nat.sub_self]
  rfl
theorem getD_mid (os t : List Int) (c : Int) (i : Nat) (h : os.length = i) : (os ++ c :: t).getD i 0 = c := by
  subst h
  simp [List.getD_eq_getElem?_getD]
theorem mul_one_step (k i n : Nat) (os t a : List Int) (c x y p : Int) (hos : os.length = i) (ha : a.length = n) (hn : n ≤ 1000) (hil : i < n) (ht : t.length ≤ 2000) (hx : a.getD i 0 = x) (hp : x * y = p) (hc0 : 0 ≤ c) (hc1 : c < 65536) (hp0 : 0 ≤ p) (hp1 : p ≤ 1048560) :
    spec_Mul.l0 (k + 3) [y] (os ++ c :: 0 :: t) a (n : Int) (i : Int) = spec_Mul.l0 k [y] (os ++ (c + p) % 65536 :: (c + p) / 65536 :: t) a (n : Int) ((i + 1 : Nat) : Int) := by
  have l1 : ((os ++ c :: 0 :: t).length : Int) = i + (t.length + 2 : Nat) := by rw [List.length_append, hos]; simp; omega
  have l2 : ((os ++ (c + p) % 65536 :: 0 :: t).length : Int) = i + (t.length + 2 : Nat) := by rw [List.length_append, hos]; simp; omega
  have c1 : (i : Int) < (n : Int) := by omega
  have c2 : (0 : Int) ≤ (i : Int) := by omega
  have c3 : (i : Int) < ((os ++ c :: 0 :: t).length : Int) := by rw [l1]; omega
  have c4 : ((i + 1 : Nat) : Int) < ((os ++ (c + p) % 65536 :: 0 :: t).length : Int) := by rw [l2]; omega
  have c5 : (0 : Int) ≤ ((i + 1 : Nat) : Int) := by omega
  have b1 : -9223372036854775808 ≤ (i : Int) + 1 ∧ (i : Int) + 1 ≤ 9223372036854775807 := by omega
  have b2 : -9223372036854775808 ≤ (i : Int) ∧ (i : Int) ≤ 9223372036854775807 := by omega
  have b3 : -9223372036854775808 ≤ p ∧ p ≤ 9223372036854775807 := by omega
  have b4 : -9223372036854775808 ≤ c + p ∧ c + p ≤ 9223372036854775807 := by omega
  have b5 : -9223372036854775808 ≤ (c + p) / 65536 ∧ (c + p) / 65536 ≤ 9223372036854775807 := by omega
  have b6 : 0 ≤ c + p := by omega
  have e1 : wrap64 ((i : Int) + 1) = ((i + 1 : Nat) : Int) := w64 b1.1 b1.2
  have e0 : wrap64 ((i : Int) + 0) = (i : Int) := by rw [Int.add_zero]; exact w64 b2.1 b2.2
  have e2 : wrap64 (x * y) = p := by rw [hp]; exact w64 b3.1 b3.2
  have e3 : wrap64 (c + p) = c + p := w64 b4.1 b4.2
  have e4 : wrap64 (0 + (c + p)) = c + p := by rw [Int.zero_add]; exact e3
  have e5 : Int.tmod (c + p) 65536 = (c + p) % 65536 := Int.tmod_eq_emod_of_nonneg b6
  have e6 : wrap64 (Int.tdiv (c + p) 65536) = (c + p) / 65536 := by rw [Int.tdiv_eq_ediv_of_nonneg b6]; exact w64 b5.1 b5.2
  have e7 : wrap64 ((0 : Int) + 1) = 1 := w64 (by decide) (by decide)
  have r1 : rd a (i : Int) = x := by rw [rd_at, hx]
  have r2 : rd (os ++ c :: 0 :: t) (i : Int) = c := by rw [rd_at, getD_mid _ _ _ _ hos]
  have r3 : rd [y] 0 = y := rfl
  have s1 : (os ++ c :: 0 :: t).set i ((c + p) % 65536) = os ++ (c + p) % 65536 :: 0 :: t := set_mid _ _ _ _ _ hos
  have s2 : (os ++ (c + p) % 65536 :: 0 :: t).set (i + 1) ((c + p) / 65536) = os ++ (c + p) % 65536 :: (c + p) / 65536 :: t := by
    have := set_mid (os ++ [(c + p) % 65536]) t 0 ((c + p) / 65536) (i + 1) (by simp [hos])
    simpa using this
  have u1 : (([y] : List Int).length : Int) = 1 := rfl
  have n1 : ((i : Int)).toNat = i := Int.toNat_natCast i
  have n2 : (((i + 1 : Nat) : Int)).toNat = i + 1 := Int.toNat_natCast _
  rw [spec_Mul.l0, if_pos c1, if_pos c2, if_pos (by rw [ha]; exact c1), u1, spec_Mul.l1, if_pos (by decide), if_pos (by decide), u1, if_pos (by decide), e0, if_pos c2, if_pos c3, r1, r2, r3, e2, e3, e4, e5, e6, e7, n1, s1, spec_Mul.l1, if_neg (by decide), u1, e1, if_pos c5, if_pos c4, n2, s2]
theorem mul_loop (y : Int) (hy0 : 0 ≤ y) (hy : y ≤ 16) (a : List Int) (ha : InD a) (hn : a.length ≤ 1000) (d : Nat) : ∀ (i k : Nat) (os : List Int) (c : Int), i + d = a.length → os.length = i → InD os → 0 ≤ c → c < 65536 → valD os + 65536 ^ i * c = valD (a.take i) * y → 3 * d + 2000 ≤ k →
    ∃ r, spec_Mul.l0 k [y] (os ++ c :: List.replicate d 0) a (a.length : Int) (i : Int) = some (trimL r) ∧ InD r ∧ valD r = valD a * y ∧ r.length ≤ a.length + 1 := by
  induction d with
  | zero =>
    intro i k os c hi hos hoi hc0 hc1 hv hk
    obtain ⟨k, rfl⟩ : ∃ m, k = m + 1 := ⟨k - 1, by clear hv; omega⟩
    have hin : ¬ (i : Int) < (a.length : Int) := by clear hv; omega
    have hil : a.length ≤ i := by clear hv; omega
    refine ⟨os ++ [c], ?_, inD_snoc hoi hc0 hc1, ?_, by clear hv; simp; omega⟩
    · rw [spec_Mul.l0, if_neg hin]
      have : (os ++ c :: List.replicate 0 0).length = i + 1 := by simp [hos]
      rw [trim_ev _ _ _ this (by clear hv; omega) (by clear hv; omega)]
      rfl
    · rw [valD_snoc, hos, hv, List.take_of_length_le hil]
  | succ d ih =>
    intro i k os c hi hos hoi hc0 hc1 hv hk
    obtain ⟨k, rfl⟩ : ∃ m, k = m + 3 := ⟨k - 3, by clear hv; omega⟩
    have hil : i < a.length := by clear hv; omega
    have hx := ha (a.getD i 0) (by rw [List.getD_eq_getElem?_getD, List.getElem?_eq_getElem hil]; exact List.getElem_mem _)
    obtain ⟨x, hxe⟩ : ∃ x, a.getD i 0 = x := ⟨_, rfl⟩
    rw [hxe] at hx
    have hp0 : 0 ≤ x * y := Int.mul_nonneg hx.1 hy0
    have hp1 : x * y ≤ 65535 * 16 := Int.mul_le_mul (by clear hv; omega) hy hy0 (by decide)
    have hm1 := mul1_step (65536 ^ i) (valD os) (valD (a.take i)) c ((c + x * y) % 65536) ((c + x * y) / 65536) x y hv (by clear hv; omega)
    obtain ⟨p, hp⟩ : ∃ p, x * y = p := ⟨_, rfl⟩
    rw [hp] at hp0 hp1 hm1
    clear hv
    replace hm1 := Aside0.mk hm1
    have q1 : 0 ≤ (c + p) % 65536 := by omega
    have q2 : (c + p) % 65536 < 65536 := by omega
    have q3 : 0 ≤ (c + p) / 65536 := by omega
    have q4 : (c + p) / 65536 < 65536 := by omega
    have hl : (os ++ [(c + p) % 65536]).length = i + 1 := by simp [hos]
    have hmin : min i a.length = i := Nat.min_eq_left (Nat.le_of_lt hil)
    obtain ⟨r, hr, hr2⟩ := ih (i + 1) k (os ++ [(c + p) % 65536]) ((c + p) / 65536) (by omega) hl (inD_snoc hoi q1 q2) q3 q4 (by
      rw [valD_snoc, hos, take_next a i hil, valD_snoc, List.length_take, hmin, hxe, Int.pow_succ]
      exact hm1.out) (by omega)
    refine ⟨r, ?_, hr2⟩
    rw [← hr, List.replicate_succ, mul_one_step k i a.length os (List.replicate d 0) a c x y p hos rfl hn hil (by simp; omega) hxe hp hc0 hc1 hp0 hp1]
    rw [List.append_assoc]
    rfl
theorem mul_ev (k : Nat) (hk : 8000 ≤ k) (y : Int) (hy0 : 0 ≤ y) (hy : y ≤ 16) (a : List Int) (x : Int) (L : Nat) (hL : L ≤ 999) (h : NumD a x L) : ∃ r, spec_Mul.f k a [y] = some r ∧ NumD r (x * y) (L + 1) := by
  obtain ⟨h1, h2, h3, h4⟩ := h
  obtain ⟨r, hr, hr1, hr2, hr3⟩ := mul_loop y hy0 hy a h1 (by omega) a.length 0 k [] 0 (by omega) rfl (by intro x hx; simp at hx) (by decide) (by decide) (by simp [valD]) (by omega)
  refine ⟨trimL r, ?_, ?_⟩
  · have e : wrap64 ((a.length : Int) + (([y] : List Int).length : Int)) = ((a.length + 1 : Nat) : Int) := by rw [w64 (by simp; omega) (by simp; omega)]; rfl
    unfold spec_Mul.f
    rw [e, if_pos (by omega), if_pos (by rw [Int.toNat_natCast]; omega), Int.toNat_natCast, List.replicate_succ]
    exact hr
  · have := numD_trim hr1 (L + 1) (by omega)
    rw [hr2, h3] at this
    exact this
end Go.Proofs.YtnhonclncjgjoaaGreatDoor

namespace Go.Proofs.YtnhonclncjgjoaaGreatDoor
open Go Go.RowKit Go.Proofs.YtnhonclncjgjoaaGreatDoorW.PrintWords Ps
set_option linter.unusedVariables false
set_option linter.unusedSimpArgs false

theorem getD_out (l : List Int) (i : Nat) (h : l.length ≤ i) : l.getD i 0 = 0 := by rw [List.getD_eq_getElem?_getD, List.getElem?_eq_none h]; rfl
theorem add_one_step (k i : Nat) (a b out : List Int) (c v : Int) (hi : i < a.length ∨ i < b.length) (hn : a.length ≤ 2000) (hn2 : b.length ≤ 2000) (ho : out.length ≤ 4000) (hc0 : 0 ≤ c) (hc1 : c ≤ 1) (ha : InD a) (hb : InD b) (hv : c + a.getD i 0 + b.getD i 0 = v) :
    spec_Add.l0 (k + 2) a b out c (i : Int) = spec_Add.l0 k a b (out ++ [v % 65536]) (v / 65536) ((i + 1 : Nat) : Int) := by
  have hx : 0 ≤ a.getD i 0 ∧ a.getD i 0 < 65536 := by
    by_cases h : i < a.length
    · exact ha _ (by rw [List.getD_eq_getElem?_getD, List.getElem?_eq_getElem h]; exact List.getElem_mem _)
    · rw [getD_out a i (by omega)]; decide
  have hy : 0 ≤ b.getD i 0 ∧ b.getD i 0 < 65536 := by
    by_cases h : i < b.length
    · exact hb _ (by rw [List.getD_eq_getElem?_getD, List.getElem?_eq_getElem h]; exact List.getElem_mem _)
    · rw [getD_out b i (by omega)]; decide
  have c2 : (0 : Int) ≤ (i : Int) := by omega
  have c3 : out.length < 17592186044416 := by omega
  have b1 : -9223372036854775808 ≤ (i : Int) + 1 ∧ (i : Int) + 1 ≤ 9223372036854775807 := by omega
  have b3 : -9223372036854775808 ≤ v ∧ v ≤ 9223372036854775807 := by omega
  have b4 : -9223372036854775808 ≤ c + a.getD i 0 ∧ c + a.getD i 0 ≤ 9223372036854775807 := by omega
  have b5 : -9223372036854775808 ≤ v / 65536 ∧ v / 65536 ≤ 9223372036854775807 := by omega
  have b6 : 0 ≤ v := by omega
  by_cases h1 : i < a.length
  · have d1 : (i : Int) < (a.length : Int) := by omega
    by_cases h2 : i < b.length
    · have d2 : (i : Int) < (b.length : Int) := by omega
      have e1 : wrap64 ((i : Int) + 1) = ((i + 1 : Nat) : Int) := w64 b1.1 b1.2
      have e2 : wrap64 (c + a.getD i 0) = c + a.getD i 0 := w64 b4.1 b4.2
      have e3 : wrap64 (c + a.getD i 0 + b.getD i 0) = v := by rw [hv]; exact w64 b3.1 b3.2
      have e5 : Int.tmod v 65536 = v % 65536 := Int.tmod_eq_emod_of_nonneg b6
      have e6 : wrap64 (Int.tdiv v 65536) = v / 65536 := by rw [Int.tdiv_eq_ediv_of_nonneg b6]; exact w64 b5.1 b5.2
      rw [spec_Add.l0, if_pos d1, spec_Add.j1, if_pos rfl, if_pos d1, if_pos c2, if_pos d2, if_pos c3, rd_at, rd_at, e2, e3, e5, e6, e1]
    · have d2 : ¬ (i : Int) < (b.length : Int) := by omega
      have hy0 : b.getD i 0 = 0 := getD_out b i (by omega)
      rw [hy0, Int.add_zero] at hv
      have e1 : wrap64 ((i : Int) + 1) = ((i + 1 : Nat) : Int) := w64 b1.1 b1.2
      have e2 : wrap64 (c + a.getD i 0) = v := by rw [hv]; exact w64 b3.1 b3.2
      have e5 : Int.tmod v 65536 = v % 65536 := Int.tmod_eq_emod_of_nonneg b6
      have e6 : wrap64 (Int.tdiv v 65536) = v / 65536 := by rw [Int.tdiv_eq_ediv_of_nonneg b6]; exact w64 b5.1 b5.2
      rw [spec_Add.l0, if_pos d1, spec_Add.j1, if_pos rfl, if_pos d1, if_pos c2, if_neg d2, if_pos c3, rd_at, e2, e5, e6, e1]
  · have d1 : ¬ (i : Int) < (a.length : Int) := by omega
    have d2 : (i : Int) < (b.length : Int) := by omega
    have hx0 : a.getD i 0 = 0 := getD_out a i (by omega)
    rw [hx0, Int.add_zero] at hv
    have e1 : wrap64 ((i : Int) + 1) = ((i + 1 : Nat) : Int) := w64 b1.1 b1.2
    have e2 : wrap64 (c + b.getD i 0) = v := by rw [hv]; exact w64 b3.1 b3.2
    have e5 : Int.tmod v 65536 = v % 65536 := Int.tmod_eq_emod_of_nonneg b6
    have e6 : wrap64 (Int.tdiv v 65536) = v / 65536 := by rw [Int.tdiv_eq_ediv_of_nonneg b6]; exact w64 b5.1 b5.2
    rw [spec_Add.l0, if_neg d1, spec_Add.j1, if_pos (decide_eq_true d2), if_neg d1, if_pos d2, if_pos c2, if_pos c3, rd_at, e2, e5, e6, e1]
theorem take_next0 (xs : List Int) (i : Nat) : valD (xs.take (i + 1)) = valD (xs.take i) + 65536 ^ i * xs.getD i 0 := by
  by_cases h : i < xs.length
  · rw [take_next xs i h, valD_snoc, List.length_take, Nat.min_eq_left (Nat.le_of_lt h)]
  · rw [getD_out xs i (by omega), Int.mul_zero, Int.add_zero, List.take_of_length_le (by omega), List.take_of_length_le (by omega)]
theorem add_step (P S T U c l h x y : Int) (h1 : S + P * c = T + U) (h2 : l + 65536 * h = c + x + y) : S + P * l + P * 65536 * h = T + P * x + (U + P * y) := by
  have h3 : P * (l + 65536 * h) = P * (c + x + y) := by rw [h2]
  rw [Int.mul_add, Int.mul_add, Int.mul_add, ← Int.mul_assoc] at h3
  generalize P * l = a at *
  generalize P * 65536 * h = b at *
  generalize P * x = d at *
  generalize P * c = e at *
  generalize P * y = f at *
  omega
theorem add_loop (a b : List Int) (ha : InD a) (hb : InD b) (hn : a.length ≤ 1999) (hn2 : b.length ≤ a.length + 1) (d : Nat) : ∀ (i k : Nat) (out : List Int) (c : Int), i + d = max a.length b.length → out.length = i → InD out → 0 ≤ c → c ≤ 1 → valD out + 65536 ^ i * c = valD (a.take i) + valD (b.take i) → 2 * d + 4000 ≤ k →
    ∃ r, spec_Add.l0 k a b out c (i : Int) = some (trimL r) ∧ InD r ∧ valD r = valD a + valD b ∧ r.length ≤ a.length + 2 := by
  induction d with
  | zero =>
    intro i k out c hi hos hoi hc0 hc1 hv hk
    replace hv := Aside0.mk hv
    obtain ⟨k, rfl⟩ : ∃ m, k = m + 2 := ⟨k - 2, by omega⟩
    have d1 : ¬ (i : Int) < (a.length : Int) := by omega
    have d2 : ¬ (i : Int) < (b.length : Int) := by omega
    have c3 : out.length < 17592186044416 := by omega
    have hl : (out ++ [c]).length = i + 1 := by simp [hos]
    refine ⟨out ++ [c], ?_, inD_snoc hoi hc0 (by omega), ?_, by omega⟩
    · rw [spec_Add.l0, if_neg d1, spec_Add.j1, if_neg (by simpa using d2), if_pos c3, trim_ev _ _ _ hl (by omega) (by omega)]
      rfl
    · rw [valD_snoc, hos, hv.out, List.take_of_length_le (by omega), List.take_of_length_le (by omega)]
  | succ d ih =>
    intro i k out c hi hos hoi hc0 hc1 hv hk
    replace hv := Aside0.mk hv
    obtain ⟨k, rfl⟩ : ∃ m, k = m + 2 := ⟨k - 2, by omega⟩
    have hil : i < a.length ∨ i < b.length := by omega
    have hx : 0 ≤ a.getD i 0 ∧ a.getD i 0 < 65536 := by
      by_cases h : i < a.length
      · exact ha _ (by rw [List.getD_eq_getElem?_getD, List.getElem?_eq_getElem h]; exact List.getElem_mem _)
      · rw [getD_out a i (by omega)]; decide
    have hy : 0 ≤ b.getD i 0 ∧ b.getD i 0 < 65536 := by
      by_cases h : i < b.length
      · exact hb _ (by rw [List.getD_eq_getElem?_getD, List.getElem?_eq_getElem h]; exact List.getElem_mem _)
      · rw [getD_out b i (by omega)]; decide
    obtain ⟨v, hve⟩ : ∃ v, c + a.getD i 0 + b.getD i 0 = v := ⟨_, rfl⟩
    have q1 : 0 ≤ v % 65536 := by omega
    have q2 : v % 65536 < 65536 := by omega
    have q3 : 0 ≤ v / 65536 := by omega
    have q4 : v / 65536 ≤ 1 := by omega
    have hs := add_step (65536 ^ i) (valD out) (valD (a.take i)) (valD (b.take i)) c (v % 65536) (v / 65536) (a.getD i 0) (b.getD i 0) hv.out (by omega)
    replace hs := Aside0.mk hs
    obtain ⟨r, hr, hr2⟩ := ih (i + 1) k (out ++ [v % 65536]) (v / 65536) (by omega) (by simp [hos]) (inD_snoc hoi q1 q2) q3 q4 (by
      rw [valD_snoc, hos, take_next0, take_next0, Int.pow_succ]
      exact hs.out) (by omega)
    exact ⟨r, by rw [← hr]; exact add_one_step k i a b out c v hil (by omega) (by omega) (by omega) hc0 hc1 ha hb hve, hr2⟩
theorem add_ev (k : Nat) (hk : 12000 ≤ k) (a b : List Int) (x y : Int) (L : Nat) (hL : L ≤ 1000) (h : NumD a x L) (hb : NumD b y 1) : ∃ r, spec_Add.f k a b = some r ∧ NumD r (x + y) (L + 2) := by
  obtain ⟨h1, h2, h3, h4⟩ := h
  obtain ⟨g1, g2, g3, g4⟩ := hb
  obtain ⟨r, hr, hr1, hr2, hr3⟩ := add_loop a b h1 g1 (by omega) (by omega) (max a.length b.length) 0 k [] 0 (by omega) rfl (by intro x hx; simp at hx) (by decide) (by decide) (by simp [valD]) (by omega)
  refine ⟨trimL r, hr, ?_⟩
  have := numD_trim hr1 (L + 2) (by omega)
  rw [hr2, h3, g3] at this
  exact this
def digOK' (c : Nat) : Bool := decide ((48 ≤ c ∧ c ≤ 57 → dig36 c = c - 48) ∧ (97 ≤ c ∧ c ≤ 122 → dig36 c = c - 87) ∧ (65 ≤ c ∧ c ≤ 90 → dig36 c = c - 55) ∧ (c < 48 ∨ (57 < c ∧ c < 65) ∨ (90 < c ∧ c < 97) ∨ 122 < c → dig36 c = 99))
theorem digOK_all' : (List.range 256).all digOK' = true := by decide +kernel
theorem dig_all' (c : Int) (h0 : 0 ≤ c) (h1 : c < 256) : (48 ≤ c ∧ c ≤ 57 → dig36 c = c - 48) ∧ (97 ≤ c ∧ c ≤ 122 → dig36 c = c - 87) ∧ (65 ≤ c ∧ c ≤ 90 → dig36 c = c - 55) ∧ (c < 48 ∨ (57 < c ∧ c < 65) ∨ (90 < c ∧ c < 97) ∨ 122 < c → dig36 c = 99) := by
  obtain ⟨n, rfl⟩ := Int.eq_ofNat_of_zero_le h0
  have := of_decide_eq_true (List.all_eq_true.1 digOK_all' n (List.mem_range.2 (by omega)))
  exact ⟨fun h => this.1 (by omega), fun h => this.2.1 (by omega), fun h => this.2.2.1 (by omega), fun h => this.2.2.2 (by omega)⟩
theorem digit_ev (k : Nat) (c : Int) (h0 : 0 ≤ c) (h1 : c < 256) : spec_digit.f (k + 3) c = some (dig36 c) := by
  have hd := dig_all' c h0 h1
  unfold spec_digit.f
  by_cases a1 : c ≥ 48
  · rw [if_pos a1, spec_digit.j0]
    by_cases a2 : c ≤ 57
    · rw [if_pos (decide_eq_true a2), hd.1 ⟨a1, a2⟩]
      congr 1; omega
    · rw [if_neg (by simpa using a2)]
      by_cases a3 : c ≥ 97
      · rw [if_pos a3, spec_digit.j1]
        by_cases a4 : c ≤ 122
        · rw [if_pos (decide_eq_true a4), hd.2.1 ⟨a3, a4⟩]
          congr 1; omega
        · rw [if_neg (by simpa using a4), if_pos (by omega), if_neg (by omega), hd.2.2.2 (by omega)]
      · rw [if_neg a3, spec_digit.j1, if_neg (by decide)]
        by_cases a5 : c ≥ 65
        · rw [if_pos a5]
          by_cases a6 : c ≤ 90
          · rw [if_pos a6, hd.2.2.1 ⟨a5, a6⟩]
            congr 1; omega
          · rw [if_neg a6, hd.2.2.2 (by omega)]
        · rw [if_neg a5, hd.2.2.2 (by omega)]
  · rw [if_neg a1, spec_digit.j0, if_neg (by decide), if_neg (by omega), spec_digit.j1, if_neg (by decide), if_neg (by omega), hd.2.2.2 (by omega)]
end Go.Proofs.YtnhonclncjgjoaaGreatDoor

namespace Go.Proofs.YtnhonclncjgjoaaGreatDoor
open Go Go.RowKit Go.Proofs.YtnhonclncjgjoaaGreatDoorW.PrintWords Ps
set_option linter.unusedVariables false
set_option linter.unusedSimpArgs false

def FigR (s : ByteArray) (o : Option Int) (r : Option (List Int × Int × Int)) : Prop :=
  ∃ v m e x, r = some (v, m, e) ∧ NumD v x 200 ∧ 0 ≤ m ∧ 0 ≤ e ∧ e ≤ s.size ∧ (o = some x ∧ 0 < m ∧ e = s.size ∨ o = none ∧ (m = 0 ∨ e < s.size))
theorem fig_stop {s : ByteArray} {o : Option Int} {v : List Int} {m e x : Int} (hv : NumD v x 200) (hm : 0 ≤ m) (he0 : 0 ≤ e) (he : e < s.size) (ho : o = none) : FigR s o (some (v, m, e)) := ⟨v, m, e, x, rfl, hv, hm, he0, by omega, .inr ⟨ho, .inr he⟩⟩
theorem fig_loop (s : ByteArray) (hs : s.size ≤ 60) (b : Int) (hb0 : 2 ≤ b) (hb1 : b ≤ 16) (first : Bool) (d : Nat) : ∀ (at' k : Nat) (out : List Int) (n N : Int) (al en : Bool), at' + d = s.size → NumD out N (3 * at') → 0 ≤ n → n ≤ 100 + at' → al = (decide (0 < n) || first) → en = decide (0 < n) → 4 * d + 15000 ≤ k →
    FigR s (gr b al en N ((bytesOf s).drop at')) (spec_Figures.l0 k s b first out n (at' : Int)) := by
  induction d using Nat.strongRecOn with
  | ind d ih =>
    intro at' k out n N al en hat hN hn hn1 hal hen hk
    obtain ⟨k, rfl⟩ : ∃ m, k = m + 4 := ⟨k - 4, by omega⟩
    have hout : NumD out N 200 := ⟨hN.1, hN.2.1, hN.2.2.1, Nat.le_trans hN.2.2.2 (by omega)⟩
    by_cases h0 : d = 0
    · have c1 : ¬ (at' : Int) < (s.size : Int) := by omega
      rw [drop_bytes_end s at' (by omega), spec_Figures.l0, if_neg c1]
      refine ⟨out, n, at', N, rfl, hout, hn, by omega, by omega, ?_⟩
      subst hen
      simp only [gr]
      by_cases hp : 0 < n
      · exact .inl ⟨by simp [hp], hp, by omega⟩
      · exact .inr ⟨by simp [hp], .inl (by omega)⟩
    · have hlt : at' < s.size := by omega
      have c1 : (at' : Int) < (s.size : Int) := by omega
      have c2 : (0 : Int) ≤ (at' : Int) := by omega
      have hbr := bt_range s at'
      rw [drop_bytes s at' hlt]
      -- a figure at p, taken
      have take : ∀ (kk p : Nat) (c : Int), at' ≤ p → p < s.size → p ≤ at' + 1 → bt s p = c → 0 ≤ c → c < 256 → 4 * (s.size - (p + 1)) + 15000 ≤ kk → dig36 c < b →
          FigR s (gr b true true (N * b + dig36 c) ((bytesOf s).drop (p + 1))) (spec_Figures.j3 (kk + 1) s b first out n (at' : Int) (p : Int) false) := by
        intro kk p c hp1 hp hp2 hc hc0 hc1 hkk hd
        have hd0 : 0 ≤ dig36 c := by
          unfold dig36
          split
          · omega
          · split <;> omega
        have c3 : (0 : Int) ≤ (p : Int) := by omega
        have c4 : (p : Int) < (s.size : Int) := by omega
        obtain ⟨r1, hr1, hm1⟩ := mul_ev kk (by omega) b (by omega) hb1 out N (3 * at') (by omega) hN
        have hsd : NumD (if dig36 c = 0 then [] else [dig36 c]) (dig36 c) 1 := by
          by_cases hz : dig36 c = 0
          · rw [if_pos hz, hz]; exact NumD.nil 1
          · rw [if_neg hz]
            refine ⟨by intro x hx; rw [List.mem_singleton.1 hx]; omega, ?_, by simp [valD], Nat.le_refl _⟩
            have := trimL_snoc [] (dig36 c) hz
            simpa using this
        obtain ⟨r2, hr2, hm2⟩ := add_ev kk (by omega) r1 _ (N * b) (dig36 c) (3 * at' + 1) (by omega) hm1 hsd
        have b1 : -9223372036854775808 ≤ n + 1 ∧ n + 1 ≤ 9223372036854775807 := by omega
        have b2 : -9223372036854775808 ≤ (p : Int) + 1 ∧ (p : Int) + 1 ≤ 9223372036854775807 := by omega
        have hi := ih (s.size - (p + 1)) (by omega) (p + 1) kk r2 (n + 1) (N * b + dig36 c) true true (by omega) ⟨hm2.1, hm2.2.1, hm2.2.2.1, Nat.le_trans hm2.2.2.2 (by omega)⟩ (by omega) (by omega) (by simp; omega) (by simp; omega) hkk
        obtain ⟨k2, rfl⟩ : ∃ m, kk = m + 3 := ⟨kk - 3, by omega⟩
        have hsm := small_ev (k2 + 1) b (by omega) (by omega)
        rw [if_neg (by omega)] at hsm
        have hsm2 := small_ev (k2 + 1) (dig36 c) hd0 (by omega)
        have e1 : wrap64 (n + 1) = n + 1 := w64 b1.1 b1.2
        have e2 : wrap64 ((p : Int) + 1) = ((p + 1 : Nat) : Int) := w64 b2.1 b2.2
        rw [spec_Figures.j3, if_neg (by decide), hsm, Option.bind_some, hr1, Option.bind_some, if_pos c3, if_pos c4, hc, digit_ev k2 c hc0 hc1, Option.bind_some, hsm2, Option.bind_some, hr2, Option.bind_some, e1, e2]
        exact hi
      -- a byte at p that is none
      have look : ∀ (kk p : Nat) (c : Int), p < s.size → bt s p = c → 0 ≤ c → c < 256 → 5 ≤ kk → spec_Figures.j2 (kk + 1) s b first out n (at' : Int) (p : Int) = spec_Figures.j3 kk s b first out n (at' : Int) (p : Int) (decide (dig36 c ≥ b)) := by
        intro kk p c hp hc hc0 hc1 hkk
        have c3 : (0 : Int) ≤ (p : Int) := by omega
        have c4 : (p : Int) < (s.size : Int) := by omega
        have c5 : ¬ (p : Int) ≥ (s.size : Int) := by omega
        obtain ⟨k2, rfl⟩ : ∃ m, kk = m + 3 := ⟨kk - 3, by omega⟩
        rw [spec_Figures.j2, if_neg c5, if_pos c3, if_pos c4, hc, digit_ev k2 c hc0 hc1, Option.bind_some]
      obtain ⟨c, hc⟩ : ∃ c, bt s at' = c := ⟨_, rfl⟩
      rw [hc] at hbr ⊢
      have hc256 : c < 256 := by omega
      -- no underscore: the byte itself
      have plain : ∀ kk : Nat, 4 * d + 14996 ≤ kk → c ≠ 95 → FigR s (gr b al en N (c :: (bytesOf s).drop (at' + 1))) (spec_Figures.j2 (kk + 2) s b first out n (at' : Int) (at' : Int)) := by
        intro kk hkk h95
        rw [look (kk + 1) at' c hlt hc hbr.1 hc256 (by omega)]
        simp only [gr]
        rw [if_neg h95]
        by_cases hd : dig36 c < b
        · rw [if_pos hd, show decide (dig36 c ≥ b) = false from by simp; omega]
          exact take kk at' c (Nat.le_refl _) hlt (by omega) hc hbr.1 hc256 (by omega) hd
        · rw [if_neg hd, show decide (dig36 c ≥ b) = true from by simp; omega, spec_Figures.j3, if_pos rfl]
          exact fig_stop hout hn c2 c1 rfl
      rw [spec_Figures.l0, if_pos c1, if_pos c2, hc]
      by_cases h95 : c = 95
      · rw [if_pos h95]
        subst h95
        have hd95 : dig36 95 = 99 := by decide
        have hj : (if n > 0 then spec_Figures.j1 (k + 3) s b first out n (at' : Int) (at' : Int) true else spec_Figures.j1 (k + 3) s b first out n (at' : Int) (at' : Int) first) = spec_Figures.j1 (k + 3) s b first out n (at' : Int) (at' : Int) al := by
          subst hal
          by_cases hp : n > 0
          · rw [if_pos hp]; simp [hp]
          · rw [if_neg hp]; simp [hp]
        rw [hj, spec_Figures.j1]
        simp only [gr, if_true]
        cases al with
        | false =>
          rw [if_neg (by decide), look (k + 1) at' 95 hlt hc (by decide) (by decide) (by omega), hd95, decide_eq_true (show b ≤ 99 by omega), spec_Figures.j3, if_pos rfl]
          exact fig_stop hout hn c2 c1 (by simp)
        | true =>
          have b2 : -9223372036854775808 ≤ (at' : Int) + 1 ∧ (at' : Int) + 1 ≤ 9223372036854775807 := by omega
          have k5 : 5 ≤ k + 1 := by omega
          have k6 : 4 * (s.size - (at' + 1 + 1)) + 15000 ≤ k := by omega
          have b99 : b ≤ 99 := by omega
          have d99 : decide ((99 : Int) ≥ b) = true := decide_eq_true b99
          have a1 : at' ≤ at' + 1 := Nat.le_succ _
          have c7 : ¬ at' + 1 < s.size → ((at' + 1 : Nat) : Int) ≥ (s.size : Int) := by omega
          rw [if_pos rfl, if_pos rfl]
          by_cases h1 : at' + 1 < s.size
          · have hbr2 := bt_range s (at' + 1 : Nat)
            rw [drop_bytes s (at' + 1) h1]
            have hc2b : bt s (at' + 1 : Nat) < 256 := Int.lt_of_le_of_lt hbr2.2 (by decide)
            have e2 : wrap64 ((at' : Int) + 1) = ((at' + 1 : Nat) : Int) := w64 b2.1 b2.2
            rw [e2, look (k + 1) (at' + 1) _ h1 rfl hbr2.1 hc2b k5]
            have tk := fun h => take k (at' + 1) _ a1 h1 (Nat.le_refl _) rfl hbr2.1 hc2b k6 h
            clear e2 look take plain ih
            obtain ⟨c2', hc2⟩ : ∃ c, bt s (at' + 1 : Nat) = c := ⟨_, rfl⟩
            rw [hc2] at tk ⊢
            clear hc2 hc hbr2 hc2b
            simp only [gr]
            by_cases h95 : c2' = 95
            · rw [if_pos h95, if_neg (by decide), h95, hd95, d99, spec_Figures.j3, if_pos rfl]
              exact fig_stop hout hn c2 c1 rfl
            · rw [if_neg h95]
              by_cases hd : dig36 c2' < b
              · rw [if_pos hd, show decide (dig36 c2' ≥ b) = false from decide_eq_false (Int.not_le.2 hd)]
                exact tk hd
              · rw [if_neg hd, show decide (dig36 c2' ≥ b) = true from decide_eq_true (Int.not_lt.1 hd), spec_Figures.j3, if_pos rfl]
                exact fig_stop hout hn c2 c1 rfl
          · have e2 : wrap64 ((at' : Int) + 1) = ((at' + 1 : Nat) : Int) := w64 b2.1 b2.2
            rw [drop_bytes_end s (at' + 1) h1, e2, spec_Figures.j2, if_pos (c7 h1), spec_Figures.j3, if_pos rfl]
            exact fig_stop hout hn c2 c1 (by simp [gr])
      · rw [if_neg h95, spec_Figures.j1, if_neg (by decide)]
        exact plain k (by omega) h95
theorem fig_ev (s : ByteArray) (hs : s.size ≤ 60) (b : Int) (hb0 : 2 ≤ b) (hb1 : b ≤ 16) (first : Bool) : FigR s (gr b first false 0 (bytesOf s)) (spec_Figures.f 20000 s b first) := by
  have := fig_loop s hs b hb0 hb1 first s.size 0 20000 [] 0 0 first false (by omega) (NumD.nil _) (by decide) (by decide) (by simp) (by simp) (by omega)
  rw [List.drop_zero] at this
  exact this
end Go.Proofs.YtnhonclncjgjoaaGreatDoor

namespace Go.Proofs.YtnhonclncjgjoaaGreatDoor
open Go Go.RowKit Go.Proofs.YtnhonclncjgjoaaGreatDoorW.PrintWords Ps
set_option linter.unusedVariables false
set_option linter.unusedSimpArgs false

theorem bytes_cut (s : ByteArray) (k : Nat) (hk : k ≤ s.size) : bytesOf (s.extract k s.size) = (bytesOf s).drop k := by
  unfold bytesOf
  rw [← List.map_drop]
  congr 1
  have h := data_length s
  simp
  exact List.take_of_length_le (by rw [List.length_drop, h]; omega)
def lowTab (c : Nat) : Bool := decide ((isX c = true ↔ Go.bits .or .u8 c 32 = 120) ∧ (isO c = true ↔ Go.bits .or .u8 c 32 = 111) ∧ (isB c = true ↔ Go.bits .or .u8 c 32 = 98))
theorem lowTab_all : (List.range 256).all lowTab = true := by decide +kernel
theorem low_is (c : Int) (h0 : 0 ≤ c) (h1 : c < 256) : (isX c = true ↔ Go.bits .or .u8 c 32 = 120) ∧ (isO c = true ↔ Go.bits .or .u8 c 32 = 111) ∧ (isB c = true ↔ Go.bits .or .u8 c 32 = 98) := by
  obtain ⟨n, rfl⟩ := Int.eq_ofNat_of_zero_le h0
  exact of_decide_eq_true (List.all_eq_true.1 lowTab_all n (List.mem_range.2 (by omega)))
/-- What IntOf gives. -/
def IntR (s : ByteArray) (o : Option Int) : Prop := ∃ v ok x, spec_IntOf.f 20000 s = some (v, ok) ∧ NumD v x 200 ∧ (o = some x ∧ ok = true ∨ o = none ∧ ok = false)
theorem intOf_end (s S : ByteArray) (o : Option Int) (p : Int) (r : Option (List Int × Int × Int)) (hs : s.size ≤ 60) (h0 : 0 ≤ p) (hS : (S.size : Int) = s.size - p) (h : FigR S o r) :
    ∃ v ok x, (r.bind fun b => if b.2.1 > 0 then some (b.1, (wrap64 (p + b.2.2)) == (s.size : Int)) else some (b.1, false)) = some (v, ok) ∧ NumD v x 200 ∧ (o = some x ∧ ok = true ∨ o = none ∧ ok = false) := by
  obtain ⟨v, m, e, x, rfl, hv, hm, he0, he, ho⟩ := h
  have b1 : -9223372036854775808 ≤ p + e ∧ p + e ≤ 9223372036854775807 := by omega
  rw [Option.bind_some]
  simp only []
  by_cases hp : m > 0
  · rw [if_pos hp, w64 b1.1 b1.2]
    refine ⟨v, _, x, rfl, hv, ?_⟩
    rcases ho with ⟨h1, _, h3⟩ | ⟨h1, h3⟩
    · exact .inl ⟨h1, by rw [beq_iff_eq]; omega⟩
    · exact .inr ⟨h1, by rw [beq_eq_false_iff_ne]; omega⟩
  · rw [if_neg hp]
    refine ⟨v, false, x, rfl, hv, ?_⟩
    rcases ho with ⟨_, h2, _⟩ | ⟨h1, _⟩
    · omega
    · exact .inr ⟨h1, rfl⟩
theorem cut_size (s : ByteArray) (k : Nat) (hk : k ≤ s.size) : ((s.extract k s.size).size : Int) = s.size - k := by rw [ByteArray.size_extract]; omega
theorem bytes_two' (s : ByteArray) (h : 2 ≤ s.size) : bytesOf s = bt s 0 :: bt s 1 :: (bytesOf s).drop 2 := by
  have h0 := drop_bytes s 0 (by omega)
  have h1 := drop_bytes s 1 (by omega)
  rw [List.drop_zero] at h0
  exact h0.trans (congrArg (bt s 0 :: ·) h1)
theorem intOf_ev (s : ByteArray) (hs : s.size ≤ 60) : IntR s (numF (bytesOf s)) := by
  have full : ∀ (b : Int) (h2 : 2 ≤ b) (h3 : b ≤ 16), ∃ v ok x, ((spec_Figures.f 20000 (s.extract (0 : Int).toNat s.size) b (decide ((0 : Int) > 0))).bind fun r => if r.2.1 > 0 then some (r.1, (wrap64 (0 + r.2.2)) == (s.size : Int)) else some (r.1, false)) = some (v, ok) ∧ NumD v x 200 ∧ (gr b false false 0 (bytesOf s) = some x ∧ ok = true ∨ gr b false false 0 (bytesOf s) = none ∧ ok = false) := by
    intro b h2 h3
    have hS := cut_size s 0 (Nat.zero_le _)
    have hf := fig_ev (s.extract 0 s.size) (by omega) b h2 h3 false
    rw [bytes_cut s 0 (Nat.zero_le _), List.drop_zero] at hf
    exact intOf_end s _ _ 0 _ hs (by decide) hS hf
  unfold IntR spec_IntOf.f spec_prefix.f
  by_cases h1 : s.size ≤ 1
  · have c1 : ¬ (s.size : Int) > 1 := by omega
    have hp : spec_prefix.j0 20000 s false = some (10, 0) := by rw [spec_prefix.j0, if_neg (by decide)]
    rw [if_neg c1, hp, Option.bind_some]
    simp only []
    rw [if_pos trivial, if_neg c1, if_pos (by decide), if_pos (by omega)]
    have hF : numF (bytesOf s) = gr 10 false false 0 (bytesOf s) := by
      by_cases h0 : s.size = 0
      · have e := drop_bytes_end s 0 (by omega)
        rw [List.drop_zero] at e
        rw [e]; rfl
      · have e0 := drop_bytes s 0 (by omega)
        have e1 := drop_bytes_end s 1 (by omega)
        rw [List.drop_zero, e1] at e0
        rw [e0]; rfl
    rw [hF]
    exact full 10 (by decide) (by decide)
  · have h2 : 2 ≤ s.size := by omega
    have c1 : (s.size : Int) > 1 := by omega
    have c2 : 0 < (s.size : Int) := by omega
    have c3 : 1 < (s.size : Int) := by omega
    have c4 : (1 : Int) ≤ (s.size : Int) := by omega
    have c5 : (2 : Int) ≤ (s.size : Int) := by omega
    have c6 : (0 : Int) ≤ (s.size : Int) := by omega
    have e := bytes_two' s h2
    have hd1 : (bytesOf s).drop 1 = bt s 1 :: (bytesOf s).drop 2 := drop_bytes s 1 (by omega)
    have hbr := bt_range s 1
    have hl := low_is (bt s 1) hbr.1 (Int.lt_of_le_of_lt hbr.2 (by decide))
    rw [if_pos c1, if_pos c2]
    by_cases h0 : bt s 0 = 48
    · have hF : numF (bytesOf s) = if isB (bt s 1) then gr 2 true false 0 ((bytesOf s).drop 2) else if isO (bt s 1) then gr 8 true false 0 ((bytesOf s).drop 2) else if isX (bt s 1) then gr 16 true false 0 ((bytesOf s).drop 2) else gr 8 true false 0 ((bytesOf s).drop 1) := by
        conv => lhs; rw [e]
        rw [hd1]
        show (if bt s 0 = 48 then _ else _) = _
        rw [if_pos h0]
      have hb : (bt s 0 == 48) = true := by rw [h0]; rfl
      rw [hF, hb, spec_prefix.j0, if_pos rfl, if_pos c3]
      have two : ∀ (b : Int) (g2 : 2 ≤ b) (g3 : b ≤ 16), ∃ v ok x, ((spec_Figures.f 20000 (s.extract (2 : Int).toNat s.size) b (decide ((2 : Int) > 0))).bind fun r => if r.2.1 > 0 then some (r.1, (wrap64 (2 + r.2.2)) == (s.size : Int)) else some (r.1, false)) = some (v, ok) ∧ NumD v x 200 ∧ (gr b true false 0 ((bytesOf s).drop 2) = some x ∧ ok = true ∨ gr b true false 0 ((bytesOf s).drop 2) = none ∧ ok = false) := by
        intro b g2 g3
        have hS := cut_size s 2 h2
        have hf := fig_ev (s.extract 2 s.size) (by omega) b g2 g3 true
        rw [bytes_cut s 2 h2] at hf
        exact intOf_end s _ _ 2 _ hs (by decide) hS hf
      by_cases hx : Go.bits .or .u8 (bt s 1) 32 = 120
      · have nb : ¬ isB (bt s 1) = true := fun h => by have := hl.2.2.1 h; rw [hx] at this; exact absurd this (by decide)
        have no : ¬ isO (bt s 1) = true := fun h => by have := hl.2.1.1 h; rw [hx] at this; exact absurd this (by decide)
        rw [if_pos hx, if_neg nb, if_neg no, if_pos (hl.1.2 hx), Option.bind_some]
        simp only []
        rw [if_neg (by decide), if_pos (by decide), if_pos c5]
        exact two 16 (by decide) (by decide)
      · have nx : ¬ isX (bt s 1) = true := fun h => hx (hl.1.1 h)
        rw [if_neg hx]
        by_cases ho : Go.bits .or .u8 (bt s 1) 32 = 111
        · have nb : ¬ isB (bt s 1) = true := fun h => by have := hl.2.2.1 h; rw [ho] at this; exact absurd this (by decide)
          rw [if_pos ho, if_neg nb, if_pos (hl.2.1.2 ho), Option.bind_some]
          simp only []
          rw [if_neg (by decide), if_pos (by decide), if_pos c5]
          exact two 8 (by decide) (by decide)
        · have no : ¬ isO (bt s 1) = true := fun h => ho (hl.2.1.1 h)
          rw [if_neg ho]
          by_cases hb : Go.bits .or .u8 (bt s 1) 32 = 98
          · rw [if_pos hb, if_pos (hl.2.2.2 hb), Option.bind_some]
            simp only []
            rw [if_neg (by decide), if_pos (by decide), if_pos c5]
            exact two 2 (by decide) (by decide)
          · have nb : ¬ isB (bt s 1) = true := fun h => hb (hl.2.2.1 h)
            rw [if_neg hb, if_neg nb, if_neg no, if_neg nx, Option.bind_some]
            simp only []
            rw [if_pos trivial, if_pos c1, if_pos c2, if_pos h0, if_pos c4]
            have hS := cut_size s 1 (by omega)
            have hf := fig_ev (s.extract 1 s.size) (by omega) 8 (by decide) (by decide) true
            rw [bytes_cut s 1 (by omega)] at hf
            exact intOf_end s _ _ 1 _ hs (by decide) hS hf
    · have hF : numF (bytesOf s) = gr 10 false false 0 (bytesOf s) := by
        rw [e]
        show (if bt s 0 = 48 then _ else _) = _
        rw [if_neg h0]
      have hb : (bt s 0 == 48) = false := by rw [beq_eq_false_iff_ne]; exact h0
      rw [hF, hb, spec_prefix.j0, if_neg (by decide), Option.bind_some]
      simp only []
      rw [if_pos trivial, if_pos c1, if_pos c2, if_neg h0, if_pos (by decide), if_pos c6]
      exact full 10 (by decide) (by decide)
end Go.Proofs.YtnhonclncjgjoaaGreatDoor

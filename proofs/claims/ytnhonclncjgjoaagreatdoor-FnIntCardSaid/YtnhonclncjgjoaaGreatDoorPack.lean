/- Joined of: Pack PackB ScanP. -/
import Derived.Test.YtnhonclncjgjoaaGreatDoorMulR
import Derived.StillTailTactics
import Derived.Deep.QuietTactic
import Derived.BigQuiet
namespace Go.Proofs.YtnhonclncjgjoaaGreatDoor
open Go Go.RowKit Go.Proofs.YtnhonclncjgjoaaGreatDoorW.PrintWords
set_option linter.unusedVariables false
set_option linter.unusedSimpArgs false

/-- How far a row is turned. -/
def turned (ws : List Int) (n i k : Nat) : Int := if k < i ∨ n - i ≤ k then ws.getD (n - 1 - k) 0 else ws.getD k 0
def RvR (B : Nat) (w : World) (g n c : Nat) (ws : List Int) (iv jv : Value) (wr : World) : Prop :=
  ∃ (i : Nat) (jj : Int) (zs : List Value), iv = .int .i64 i ∧ jv = .int .i64 jj ∧ jj + i + 1 = n ∧ (i : Int) ≤ jj + 1 ∧ WRow wr B (sl g n c) n zs ∧ (∀ k, k < n → zs[k]? = some (.int .u64 (turned ws n i k))) ∧ Below B w wr
theorem turned_end (ws : List Int) (n i : Nat) (hn : ws.length = n) (h : n ≤ 2 * i + 1) (zs : List Value) (hl : zs.length = n) (hz : ∀ k, k < n → zs[k]? = some (.int .u64 (turned ws n i k))) : zs = nums .u64 ws.reverse := by
  apply List.ext_getElem?
  intro k
  by_cases hk : k < n
  · rw [hz k hk]
    simp only [nums, List.getElem?_map, List.getElem?_reverse (show k < ws.length by omega)]
    rw [List.getElem?_eq_getElem (show ws.length - 1 - k < ws.length by omega)]
    have e : turned ws n i k = ws.getD (n - 1 - k) 0 := by
      unfold turned
      split
      · rfl
      · rw [show n - 1 - k = k by omega]
    rw [e, List.getD_eq_getElem?_getD, List.getElem?_eq_getElem (show n - 1 - k < ws.length by omega)]
    simp only [hn]
    rfl
  · rw [List.getElem?_eq_none (by omega), List.getElem?_eq_none (by simp [nums]; omega)]
theorem turned_step (ws : List Int) (n i jn : Nat) (zs : List Value) (hl : zs.length = n) (hij : i < jn) (hj : jn + i + 1 = n) (hz : ∀ k, k < n → zs[k]? = some (.int .u64 (turned ws n i k))) (k : Nat) (hk : k < n) :
    ((zs.set i (.int .u64 (turned ws n i jn))).set jn (.int .u64 (turned ws n i i)))[k]? = some (.int .u64 (turned ws n (i + 1) k)) := by
  by_cases h1 : k = jn
  · subst h1
    rw [List.getElem?_set_self (by rw [List.length_set]; omega)]
    have : turned ws n i i = turned ws n (i + 1) k := by
      unfold turned
      rw [if_neg (by omega), if_pos (by omega), show n - 1 - k = i by omega]
    rw [this]
  · rw [List.getElem?_set_ne (by omega)]
    by_cases h2 : k = i
    · subst h2
      rw [List.getElem?_set_self (by omega)]
      have : turned ws n k jn = turned ws n (k + 1) k := by
        unfold turned
        rw [if_neg (by omega), if_pos (by omega), show n - 1 - k = jn by omega]
      rw [this]
    · rw [List.getElem?_set_ne (by omega), hz k hk]
      have : turned ws n i k = turned ws n (i + 1) k := by
        unfold turned
        by_cases h3 : k < i ∨ n - i ≤ k
        · rw [if_pos h3, if_pos (by omega)]
        · rw [if_neg h3, if_neg (by omega)]
      rw [this]
set_option maxRecDepth 100000 in
set_option maxHeartbeats 2000000 in
theorem reverse_any (B g n c : Nat) (ws : List Int) (hn : ws.length = n) (hn1 : n ≤ 1000) (w : World) (h : WRow w B (sl g n c) n (nums .u64 ws)) :
    Calls Tryz.prog 132 #[sl g n c] w fun e w' => e = .returned (.tuple #[]) ∧ WRow w' B (sl g n c) n (nums .u64 ws.reverse) ∧ Below B w w' := by
  have HX := Aside0.mk (And.intro hn (And.intro hn1 (row_lt h)))
  have HS : Aside0 (RvR B w g n c ws (.int .i64 0) (.int .i64 (wrap64 ((n : Int) - 1))) w) := by
    refine Aside0.mk ⟨0, wrap64 ((n : Int) - 1), nums .u64 ws, rfl, rfl, ?_, ?_, h, ?_, Below.refl B w⟩
    · unfold wrap64; omega
    · unfold wrap64; omega
    · intro k hk
      simp only [nums, List.getElem?_map, List.getElem?_eq_getElem (show k < ws.length by omega)]
      unfold turned
      rw [if_neg (by omega), List.getD_eq_getElem?_getD, List.getElem?_eq_getElem (show k < ws.length by omega)]
      rfl
  clear h hn hn1
  go_enter Tryz.func132, Tryz.ntmps132
  go_wp2
  go_loopw [2, 3] (fun iv jv wr => RvR B w g n c ws iv jv wr) (fun iv jv _ => (intOf jv + 2 - intOf iv).toNat)
  case atStart => exact HS.out
  case round =>
    obtain ⟨i, jj, zs, rfl, rfl, hij, hle, hz, hzt, hb⟩ := hrel
    by_cases hlt : (i : Int) < jj
    · have hb1 : jj ≤ 1000 := by
        have h1 := HX.out.2.1
        omega
      have hb2 : (i : Int) ≤ 1000 := by omega
      obtain ⟨jn, rfl⟩ := Int.eq_ofNat_of_zero_le (show 0 ≤ jj by omega)
      have cI := (hz.cellAt i (by omega)).trans (hzt i (by omega))
      have cJ := (hz.cellAt jn (by omega)).trans (hzt jn (by omega))
      have zI := hz.frozenAt i
      have zJ := hz.frozenAt jn
      have hin : (i : Int) < (n : Int) := by omega
      have hjn : (jn : Int) < (n : Int) := by omega
      have hi0 : (0 : Int) ≤ (i : Int) := by omega
      have hj0 : (0 : Int) ≤ (jn : Int) := by omega
      obtain ⟨x, hx⟩ : ∃ x, turned ws n i i = x := ⟨_, rfl⟩
      obtain ⟨y, hy⟩ : ∃ y, turned ws n i jn = y := ⟨_, rfl⟩
      rw [hx] at cI
      rw [hy] at cJ
      have hw1 : wrap64 ((i : Int) + 1) = (i : Int) + 1 := by unfold wrap64; omega
      have hw2 : wrap64 ((jn : Int) - 1) = (jn : Int) - 1 := by unfold wrap64; omega
      have hne : i ≠ jn := by omega
      have HR := Aside0.mk (And.intro hij (And.intro hle (And.intro hz (And.intro hzt (And.intro hb (And.intro hx (And.intro hy (And.intro hlt (And.intro hw1 hw2)))))))))
      clear hij hle hz hzt hb hx hy hb1 hb2
      go_wp2
      go_region
      go_wp2
      obtain ⟨hij, hle, hz, hzt, hb, hx, hy, hlt2, hw1, hw2⟩ := HR.out
      have s1 := hz.stored i (.int .u64 y)
      have s2 := s1.1.stored jn (.int .u64 x)
      have hg := (row_lt hz).1
      have hzl := (row_lt hz).2.2.2
      refine ⟨⟨i + 1, (jn : Int) - 1, _, by rw [hw1]; rfl, by rw [hw2], by omega, by omega, s2.1.drew, ?_, ((hb.setCell (p := ⟨g, i, none⟩) hg _).setCell (p := ⟨g, jn, none⟩) hg _).drew⟩, ?_⟩
      · intro k hk
        rw [← hx, ← hy]
        exact turned_step ws n i jn zs hzl (by omega) (by omega) hzt k hk
      · rw [hw1, hw2]
        show ((jn : Int) - 1 + 2 - ((i : Int) + 1)).toNat < ((jn : Int) + 2 - (i : Int)).toNat
        omega
    · have HR := Aside0.mk (And.intro hij (And.intro hle (And.intro hz (And.intro hzt hb))))
      have hlt2 : jj ≤ (i : Int) := by omega
      clear hij hle hz hzt hb hlt
      go_wp2
      go_end0
      obtain ⟨hij, hle, hz, hzt, hb⟩ := HR.out
      have hzl := (row_lt hz).2.2.2
      have e := turned_end ws n i HX.out.1 (by omega) zs hzl hzt
      subst e
      exact ⟨rfl, hz, hb⟩
end Go.Proofs.YtnhonclncjgjoaaGreatDoor

namespace Go.Proofs.YtnhonclncjgjoaaGreatDoor
open Go Go.RowKit Go.Proofs.YtnhonclncjgjoaaGreatDoorW.PrintWords
set_option linter.unusedVariables false
set_option linter.unusedSimpArgs false

theorem pow_ge1' (s : Nat) : 1 ≤ (2 : Int) ^ s := by
  induction s with
  | zero => simp
  | succ n ih => rw [Int.pow_succ]; omega
theorem pow_ge {s : Nat} : 1 ≤ (2 : Int) ^ s := pow_ge1' s
/-- A word of a shifted row. -/
def shW (s : Nat) (x y : Int) : Int := x / 2 ^ s + y % 2 ^ s * 2 ^ (64 - s)
theorem p64 (s : Nat) (hs : s < 64) : (2 : Nat) ^ s * 2 ^ (64 - s) = 18446744073709551616 := by rw [← Nat.pow_add, show s + (64 - s) = 64 by omega]
theorem shW_range (s : Nat) (hs : s < 64) (x y : Nat) (hx : x < 18446744073709551616) : x / 2 ^ s + y % 2 ^ s * 2 ^ (64 - s) < 18446744073709551616 := by
  have hp := p64 s hs
  have h0 : 0 < 2 ^ s := Nat.pow_pos (by decide)
  have h1 : x / 2 ^ s < 2 ^ (64 - s) := by rw [Nat.div_lt_iff_lt_mul h0, Nat.mul_comm, hp]; exact hx
  have h2 : y % 2 ^ s + 1 ≤ 2 ^ s := Nat.mod_lt _ h0
  have h3 : (y % 2 ^ s + 1) * 2 ^ (64 - s) ≤ 2 ^ s * 2 ^ (64 - s) := Nat.mul_le_mul_right _ h2
  rw [hp, Nat.add_mul, Nat.one_mul] at h3
  omega
/-- Two words put together. -/
theorem or_words (s : Nat) (hs : s < 64) (x y : Nat) (hx : x < 18446744073709551616) : (x / 2 ^ s) ||| (y * 2 ^ (64 - s) % 18446744073709551616) = x / 2 ^ s + y % 2 ^ s * 2 ^ (64 - s) := by
  have hp := p64 s hs
  have h0 : 0 < 2 ^ s := Nat.pow_pos (by decide)
  have h1 : x / 2 ^ s < 2 ^ (64 - s) := by rw [Nat.div_lt_iff_lt_mul h0, Nat.mul_comm, hp]; exact hx
  have e : y * 2 ^ (64 - s) % 18446744073709551616 = 2 ^ (64 - s) * (y % 2 ^ s) := by rw [← hp, Nat.mul_mod_mul_right, Nat.mul_comm]
  rw [e, Nat.or_comm, ← Nat.two_pow_add_eq_or_of_lt h1, Nat.add_comm, Nat.mul_comm]
theorem or_int (s t : Nat) (hs : s < 64) (ht : 64 - s = t) (x y : Int) (hx0 : 0 ≤ x) (hx : x < 18446744073709551616) (hy0 : 0 ≤ y) : Go.bits .or .u64 (x / 2 ^ s) (IntKind.u64.wrap (y * 2 ^ t)) = shW s x y := by
  subst ht
  obtain ⟨x, rfl⟩ := Int.eq_ofNat_of_zero_le hx0
  obtain ⟨y, rfl⟩ := Int.eq_ofNat_of_zero_le hy0
  have hxn : x < 18446744073709551616 := by omega
  have e1 : ((x : Int) / 2 ^ s) = ((x / 2 ^ s : Nat) : Int) := by simp
  have e2 : IntKind.u64.wrap ((y : Int) * 2 ^ (64 - s)) = ((y * 2 ^ (64 - s) % 18446744073709551616 : Nat) : Int) := by
    rw [IntKind.wrap_u64]; simp
  have h1 : x / 2 ^ s ≤ x := Nat.div_le_self _ _
  rw [e1, e2, u64_or_nat _ _ (by omega) (Nat.mod_lt _ (by decide)), or_words s hs x y hxn]
  unfold shW
  simp
theorem shW_in (s : Nat) (hs : s < 64) (x y : Int) (hx0 : 0 ≤ x) (hx : x < 18446744073709551616) (hy0 : 0 ≤ y) : 0 ≤ shW s x y ∧ shW s x y < 18446744073709551616 := by
  obtain ⟨x, rfl⟩ := Int.eq_ofNat_of_zero_le hx0
  obtain ⟨y, rfl⟩ := Int.eq_ofNat_of_zero_le hy0
  have h := shW_range s hs x y (by omega)
  have e : shW s x y = ((x / 2 ^ s + y % 2 ^ s * 2 ^ (64 - s) : Nat) : Int) := by unfold shW; simp
  exact ⟨by rw [e]; exact Int.natCast_nonneg _, by rw [e]; have := Int.ofNat_lt.2 h; exact this⟩
theorem p64i (s : Nat) (hs : s < 64) : (2 : Int) ^ s * 2 ^ (64 - s) = 18446744073709551616 := by
  have := p64 s hs
  have h2 : ((2 ^ s * 2 ^ (64 - s) : Nat) : Int) = 18446744073709551616 := by rw [this]; rfl
  simpa using h2
/-- One word more of a shift. -/
theorem sh_step (S P T x y : Int) (s : Nat) (hs : s < 64) (h : S + P * (x / 2 ^ s) = T / 2 ^ s) :
    S + P * shW s x y + P * 18446744073709551616 * (y / 2 ^ s) = (T + P * 18446744073709551616 * y) / 2 ^ s := by
  have hp := p64i s hs
  have h0 : (2 : Int) ^ s ≠ 0 := by have := pow_ge (s := s); omega
  have e : T + P * 18446744073709551616 * y = T + 2 ^ s * (P * 2 ^ (64 - s) * y) := by
    rw [← hp]
    congr 1
    generalize (2 : Int) ^ s = u
    generalize (2 : Int) ^ (64 - s) = v
    rw [Int.mul_assoc P, Int.mul_assoc u, ← Int.mul_assoc P u, Int.mul_comm P u, Int.mul_assoc u, Int.mul_assoc P v]
  rw [e, Int.add_mul_ediv_left _ _ h0, ← h]
  have hy : y = 2 ^ s * (y / 2 ^ s) + y % 2 ^ s := (Int.mul_ediv_add_emod y (2 ^ s)).symm
  have e2 : P * 2 ^ (64 - s) * y = P * (y % 2 ^ s * 2 ^ (64 - s)) + P * 18446744073709551616 * (y / 2 ^ s) := by
    rw [← hp]
    generalize y / 2 ^ s = q at *
    generalize y % 2 ^ s = r at *
    subst hy
    rw [Int.mul_add]
    simp only [Int.mul_assoc, Int.mul_comm, Int.mul_left_comm]
    omega
  rw [e2]
  unfold shW
  rw [Int.mul_add]
  omega
theorem getD_in {ws : List Int} (hw : InW ws) (i : Nat) (h : i < ws.length) : 0 ≤ ws.getD i 0 ∧ ws.getD i 0 < 18446744073709551616 := by
  have e : ws.getD i 0 ∈ ws := by
    rw [List.getD_eq_getElem?_getD, List.getElem?_eq_getElem h]
    exact List.getElem_mem _
  exact hw _ e
theorem sh_lo {zs : List Value} {os : List Int} {n i : Nat} (x : Int) (hzl : zs.length = n) (hos : os.length = i) (hi : i < n) (hz1 : ∀ k, k < i → zs[k]? = some (.int .u64 (os.getD k 0))) (k : Nat) (hk : k < i + 1) : (zs.set i (.int .u64 x))[k]? = some (.int .u64 ((os ++ [x]).getD k 0)) := by
  by_cases hki : k = i
  · subst hki
    rw [List.getElem?_set_self (by omega), List.getD_eq_getElem?_getD, List.getElem?_append_right (by omega), hos]
    simp
  · rw [List.getElem?_set_ne (by omega), hz1 k (by omega), List.getD_eq_getElem?_getD, List.getD_eq_getElem?_getD, List.getElem?_append_left (by omega)]
theorem sh_hi {zs : List Value} {ws : List Int} {n i : Nat} (v : Value) (hz2 : ∀ k, i ≤ k → k < n → zs[k]? = some (.int .u64 (ws.getD k 0))) (k : Nat) (h1 : i + 1 ≤ k) (h2 : k < n) : (zs.set i v)[k]? = some (.int .u64 (ws.getD k 0)) := by
  rw [List.getElem?_set_ne (by omega), hz2 k (by omega) h2]
theorem sh_val {ws os : List Int} {i s : Nat} (hs : s < 64) (x y : Int) (hos : os.length = i) (hl : i + 1 < ws.length) (hy : ws.getD (i + 1) 0 = y) (hv : valW os + 18446744073709551616 ^ i * (x / 2 ^ s) = valW (ws.take (i + 1)) / 2 ^ s) :
    valW (os ++ [shW s x y]) + 18446744073709551616 ^ (i + 1) * (ws.getD (i + 1) 0 / 2 ^ s) = valW (ws.take (i + 1 + 1)) / 2 ^ s := by
  have e : (ws.take (i + 1)).length = i + 1 := by rw [List.length_take]; omega
  rw [valW_snoc, hos, hy, take_next ws (i + 1) hl, valW_snoc, e, hy, Int.pow_succ]
  exact sh_step _ _ _ x y s hs hv
theorem sh_msr (n i : Nat) (h : i + 1 < n) : n + 1 - (((i + 1 : Nat) : Int) + 1).toNat < n + 1 - ((i + 1 : Nat) : Int).toNat := by omega
theorem sh_end {zs : List Value} {os : List Int} {n i : Nat} (x : Int) (hzl : zs.length = n) (hos : os.length = i) (hi : i + 1 = n) (hz1 : ∀ k, k < i → zs[k]? = some (.int .u64 (os.getD k 0))) : zs.set i (.int .u64 x) = nums .u64 (os ++ [x]) := by
  apply List.ext_getElem?
  intro k
  by_cases hk : k < i + 1
  · rw [sh_lo x hzl hos (by omega) hz1 k hk]
    have : k < (os ++ [x]).length := by simp; omega
    simp only [nums, List.getElem?_map, List.getD_eq_getElem?_getD, List.getElem?_eq_getElem this]
    rfl
  · rw [List.getElem?_eq_none (by rw [List.length_set]; omega), List.getElem?_eq_none (by rw [nums_length]; simp; omega)]
theorem ediv_in (s : Nat) (x : Int) (h0 : 0 ≤ x) (h1 : x < 18446744073709551616) : 0 ≤ x / 2 ^ s ∧ x / 2 ^ s < 18446744073709551616 :=
  ⟨Int.ediv_nonneg h0 (Int.le_trans (by decide) (pow_ge1' s)), Int.lt_of_le_of_lt (Int.ediv_le_self _ h0) h1⟩
/-- Words of a row, as far as they are shifted. -/
def ShR (B : Nat) (w : World) (g n c s : Nat) (ws : List Int) (iv : Value) (wr : World) : Prop :=
  ∃ (i : Nat) (os : List Int) (zs : List Value), iv = .int .i64 ((i + 1 : Nat) : Int) ∧ i + 1 ≤ n ∧ os.length = i ∧ InW os ∧ WRow wr B (sl g n c) n zs ∧ (∀ k, k < i → zs[k]? = some (.int .u64 (os.getD k 0))) ∧ (∀ k, i ≤ k → k < n → zs[k]? = some (.int .u64 (ws.getD k 0))) ∧ Below B w wr ∧
    valW os + 18446744073709551616 ^ i * (ws.getD i 0 / 2 ^ s) = valW (ws.take (i + 1)) / 2 ^ s
set_option maxRecDepth 100000 in
set_option maxHeartbeats 2000000 in
theorem rshVU_any (B g n c s : Nat) (hs0 : 0 < s) (hs : s < 64) (ws : List Int) (hw : InW ws) (hn : ws.length = n) (hn0 : 0 < n) (hn1 : n ≤ 1000) (w : World) (h : WRow w B (sl g n c) n (nums .u64 ws)) :
    Calls Tryz.prog 221 #[sl g n c, sl g n c, .int .u64 s] w fun e w' => ∃ x os, e = .returned (.int .u64 x) ∧ os.length = n ∧ InW os ∧ valW os = valW ws / 2 ^ s ∧ WRow w' B (sl g n c) n (nums .u64 os) ∧ Below B w w' := by
  have q0 : ((s : Int) == 0) = false := by rw [beq_eq_false_iff_ne]; omega
  have q1 : ((n : Int) == 0) = false := by rw [beq_eq_false_iff_ne]; omega
  have q2 : (0 : Int) < (n : Int) := by omega
  have c0 := (h.cellAt 0 (by omega))
  rw [show (nums .u64 ws)[0]? = some (.int .u64 (ws.getD 0 0)) from by
    simp only [nums, List.getElem?_map, List.getD_eq_getElem?_getD, List.getElem?_eq_getElem (show 0 < ws.length by omega)]
    rfl] at c0
  have m1 : Go.bits .and .u64 (s : Int) 63 = (s : Int) := by
    have := u64_and_nat s 63 (by omega) (by omega)
    have e : ((63 : Nat) : Int) = 63 := rfl
    rw [e] at this
    rw [this, Nat.and_two_pow_sub_one_eq_mod s 6, Nat.mod_eq_of_lt (by simpa using hs)]
  obtain ⟨t, ht⟩ : ∃ t, 64 - s = t := ⟨_, rfl⟩
  have m2 : IntKind.u64.wrap (64 - (s : Int)) = (t : Int) := by rw [IntKind.wrap_u64]; omega
  have m3 : Go.bits .and .u64 (t : Int) 63 = (t : Int) := by
    have := u64_and_nat t 63 (by omega) (by omega)
    have e : ((63 : Nat) : Int) = 63 := rfl
    rw [e] at this
    rw [this, Nat.and_two_pow_sub_one_eq_mod t 6, Nat.mod_eq_of_lt (by simp; omega)]
  have m4 : min t 64 = t := by omega
  have m5 : min s 64 = s := by omega
  have HS : Aside0 (ShR B w g n c s ws (.int .i64 1) w) := by
    refine Aside0.mk ⟨0, [], nums .u64 ws, rfl, hn0, rfl, by intro x hx; simp at hx, h, by intro k hk; omega, ?_, Below.refl B w, ?_⟩
    · intro k _ hk
      simp only [nums, List.getElem?_map, List.getD_eq_getElem?_getD, List.getElem?_eq_getElem (show k < ws.length by omega)]
      rfl
    · rw [take_next ws 0 (by omega)]
      simp [valW]
  have HX := Aside0.mk (And.intro hs0 (And.intro hs (And.intro hw (And.intro hn (And.intro hn0 (And.intro hn1 (And.intro h ht)))))))
  clear hs0 hs hw hn hn0 hn1 h ht
  go_enter Tryz.func221, Tryz.ntmps221
  go_wp2
  go_loopw [8] (fun iv wr => ShR B w g n c s ws iv wr) (fun iv _ => n + 1 - (intOf iv).toNat)
  case atStart => exact HS.out
  case round =>
    obtain ⟨i, os, zs, rfl, hi, hos, hoi, hz, hz1, hz2, hb, hv⟩ := hrel
    replace hv := Aside0.mk hv
    obtain ⟨m, hm⟩ : ∃ m, i + 1 = m := ⟨_, rfl⟩
    rw [hm]
    by_cases hlt : m < n
    · have hm1 : m ≤ 1000 := by
        have := HX.out.2.2.2.2.2.1
        omega
      have cI := (hz.cellAt i (by omega)).trans (hz2 i (Nat.le_refl _) (by omega))
      have cM := (hz.cellAt m (by omega)).trans (hz2 m (by omega) hlt)
      have zI := hz.frozenAt i
      have l1 : (m : Int) < (n : Int) := by omega
      have l2 : (i : Int) < (n : Int) := by omega
      have l3 : (0 : Int) ≤ (i : Int) := by omega
      have l4 : (0 : Int) ≤ (m : Int) := by omega
      have hw1 : wrap64 ((m : Int) - 1) = (i : Int) := by unfold wrap64; omega
      have hw2 : wrap64 ((m : Int) + 1) = (m : Int) + 1 := by unfold wrap64; omega
      obtain ⟨x, hx⟩ : ∃ x, ws.getD i 0 = x := ⟨_, rfl⟩
      obtain ⟨y, hy⟩ : ∃ y, ws.getD m 0 = y := ⟨_, rfl⟩
      rw [hx] at cI
      rw [hy] at cM
      have HR := Aside0.mk (And.intro hm (And.intro hi (And.intro hos (And.intro hoi (And.intro hz (And.intro hz1 (And.intro hz2 (And.intro hb (And.intro hv (And.intro hx (And.intro hy hw2)))))))))))
      have HL := Aside0.mk hlt
      clear hm hi hos hoi hz hz1 hz2 hb hv hx hy hlt hm1
      go_wp2
      go_region
      go_wp2
      obtain ⟨hm, hi, hos, hoi, hz, hz1, hz2, hb, hv, hx, hy, hw2⟩ := HR.out
      obtain ⟨hs0, hs, hw, hn, hn0, hn1, h, ht⟩ := HX.out
      have hxr : 0 ≤ x ∧ x < 18446744073709551616 := by
        rw [← hx]
        exact getD_in hw i (by rw [hn]; exact hi)
      have hyr : 0 ≤ y := by
        rw [← hy]
        exact (getD_in hw m (by rw [hn]; exact HL.out)).1
      rw [or_int s t hs ht x y hxr.1 hxr.2 hyr, hw2]
      have hsr := shW_in s hs x y hxr.1 hxr.2 hyr
      have s1 := hz.stored i (.int .u64 (shW s x y))
      have hg := (row_lt hz).1
      have hzl := (row_lt hz).2.2.2
      subst hm
      exact ⟨⟨i + 1, os ++ [shW s x y], _, rfl, HL.out, by rw [List.length_append, hos]; rfl, hoi.snoc hsr.1 hsr.2, s1.1.drew, sh_lo _ hzl hos (Nat.lt_of_succ_lt HL.out) hz1, sh_hi _ hz2, (hb.setCell (p := ⟨g, i, none⟩) hg _).drew, sh_val hs x y hos (by rw [hn]; exact HL.out) hy (by rw [← hx]; exact hv.out)⟩, sh_msr n i HL.out⟩
    · have hmn : m = n := by omega
      subst hmn
      have cI := (hz.cellAt i (by omega)).trans (hz2 i (Nat.le_refl _) (by omega))
      have zI := hz.frozenAt i
      have hb1 : m ≤ 1000 := HX.out.2.2.2.2.2.1
      have hw1 : wrap64 ((m : Int) - 1) = (i : Int) := by unfold wrap64; omega
      have l2 : (i : Int) < (m : Int) := by omega
      have l3 : (0 : Int) ≤ (i : Int) := by omega
      obtain ⟨x, hx⟩ : ∃ x, ws.getD i 0 = x := ⟨_, rfl⟩
      rw [hx] at cI
      have HR := Aside0.mk (And.intro hm (And.intro hi (And.intro hos (And.intro hoi (And.intro hz (And.intro hz1 (And.intro hz2 (And.intro hb (And.intro hv hx)))))))))
      clear hm hi hos hoi hz hz1 hz2 hb hv hx hlt hb1
      go_wp2
      go_ret
      obtain ⟨hm, hi, hos, hoi, hz, hz1, hz2, hb, hv, hx⟩ := HR.out
      obtain ⟨hs0, hs, hw, hn, hn0, hn1, h, ht⟩ := HX.out
      have hxr : 0 ≤ x ∧ x < 18446744073709551616 := by
        rw [← hx]
        exact getD_in hw i (by rw [hn]; exact hi)
      have hxd := ediv_in s x hxr.1 hxr.2
      have s1 := hz.stored i (.int .u64 (x / 2 ^ s))
      have hg := (row_lt hz).1
      have hzl := (row_lt hz).2.2.2
      refine ⟨_, os ++ [x / 2 ^ s], rfl, by rw [List.length_append, hos]; exact hm, hoi.snoc hxd.1 hxd.2, ?_, ?_, hb.setCell (p := ⟨g, i, none⟩) hg _⟩
      · rw [valW_snoc, hos, ← hx, hv.out, List.take_of_length_le (by rw [hn, ← hm]; exact Nat.le_refl _)]
      · rw [← sh_end (x / 2 ^ s) hzl hos hm hz1]
        exact s1.1
set_option maxRecDepth 100000 in
set_option maxHeartbeats 400000 in
theorem rshVUw (B g n c s : Nat) (hs0 : 0 < s) (hs : s < 64) (ws : List Int) (hw : InW ws) (hn : ws.length = n) (hn0 : 0 < n) (hn1 : n ≤ 1000) (w : World) (h : WRow w B (sl g n c) n (nums .u64 ws)) :
    Calls Tryz.prog 180 #[sl g n c, sl g n c, .int .u64 s] w fun e w' => ∃ x os, e = .returned (.int .u64 x) ∧ os.length = n ∧ InW os ∧ valW os = valW ws / 2 ^ s ∧ WRow w' B (sl g n c) n (nums .u64 os) ∧ Below B w w' := by
  have HM := Aside0.mk (rshVU_any B g n c s hs0 hs ws hw hn hn0 hn1 w h)
  clear hs0 hs hw hn hn0 hn1 h
  go_enter Tryz.func180, Tryz.ntmps180
  go_wp2_with fail
  refine HM.out.mono ?_
  rintro e w' ⟨x, os, rfl, h⟩
  have HR := Aside0.mk h
  clear h
  go_wp2
  go_ret
  exact ⟨x, os, rfl, HR.out⟩
set_option maxRecDepth 100000 in
set_option maxHeartbeats 400000 in
theorem rsh_empty (A : Option Addr) (c s : Nat) (hs0 : 0 < s) (hs : s < 64) (w : World) : Calls Tryz.prog 133 #[.slice A 0 c, .slice A 0 c, .int .u64 s] w fun e w' => e = .returned (.slice A 0 c) ∧ w = w' := by
  have q0 : ((s : Int) == 0) = false := by rw [beq_eq_false_iff_ne]; omega
  have q1 : IntKind.u64.wrap ((s : Int) / 64) = 0 := by rw [IntKind.wrap_u64]; omega
  have q7 : wrap64 0 = 0 := by unfold wrap64; omega
  have hc : (0 : Int) ≤ (c : Int) := by omega
  clear hs0 hs
  go_enter Tryz.func133, Tryz.ntmps133
  go_wp2
  go_ret
  exact ⟨rfl, rfl⟩
set_option maxRecDepth 100000 in
set_option maxHeartbeats 400000 in
theorem rsh_some (B g n c s : Nat) (hs0 : 0 < s) (hs : s < 64) (ws : List Int) (hw : InW ws) (hn : ws.length = n) (hn0 : 0 < n) (hn1 : n ≤ 1000) (w : World) (h : WRow w B (sl g n c) n (nums .u64 ws)) :
    Calls Tryz.prog 133 #[sl g n c, sl g n c, .int .u64 s] w fun e w' => ∃ v, e = .returned v ∧ NatAt w' B v n (valW ws / 2 ^ s) ∧ Below B w w' := by
  have q0 : ((s : Int) == 0) = false := by rw [beq_eq_false_iff_ne]; omega
  have q1 : IntKind.u64.wrap ((s : Int) / 64) = 0 := by rw [IntKind.wrap_u64]; omega
  have q7 : wrap64 0 = 0 := by unfold wrap64; omega
  have q2 : (s : Int) % 64 = (s : Int) := by omega
  have q3 : ¬ (n : Int) ≤ 0 := by omega
  have q4 : (0 : Int) ≤ (n : Int) := by omega
  have hnc := (row_lt h).2.2.1
  have q5 : (n : Int) ≤ (c : Int) := by omega
  have q6 : wrap64 (n : Int) = (n : Int) := by unfold wrap64; omega
  have HM := Aside0.mk (fun w => make_old (some ⟨g, 0, none⟩) n c n w hnc)
  have HV := Aside0.mk (rshVUw B g n c s hs0 hs ws hw hn hn0 hn1 w h)
  have HX := Aside0.mk (And.intro hn1 hn)
  clear hs0 hs hw hn hn0 hn1 h hnc
  go_enter Tryz.func133, Tryz.ntmps133
  go_wp2_with fail
  refine (HM.out _).mono ?_
  rintro e w' ⟨rfl, rfl⟩
  go_wp2_with fail
  refine HV.out.mono ?_
  rintro e w1 ⟨x, os, rfl, hos, hoi, hv, hr, hb⟩
  have HN := Aside0.mk (norm_any' B g n c os hos (by have := HX.out.1; omega) hoi w1 hr)
  have HR := Aside0.mk (And.intro hos (And.intro hoi (And.intro hv (And.intro hr hb))))
  clear hos hoi hv hr hb
  go_wp2_with fail
  refine HN.out.mono ?_
  rintro e w2 ⟨i, rfl, hi, hN, hvi, rfl⟩
  have H2 := Aside0.mk (And.intro hi (And.intro hN hvi))
  clear hi hN hvi
  go_wp2
  go_ret
  obtain ⟨hi, hN, hvi⟩ := H2.out
  obtain ⟨hos, hoi, hv, hr, hb⟩ := HR.out
  obtain ⟨zs, hz, hzt, _⟩ := row_cut hr i (by have := (row_lt hr).2.2.1; omega)
  have hlen : (List.take i os).length = i := by rw [List.length_take]; omega
  refine ⟨_, rfl, ⟨_, ?_, hN, by rw [hvi, hv], by rw [hlen]; exact hi⟩, hb⟩
  rw [hlen]
  have e : nums .u64 (List.take i os) = zs := by rw [hzt hi]; simp [nums, List.map_take]
  rw [e]
  exact hz
end Go.Proofs.YtnhonclncjgjoaaGreatDoor

namespace Go.Proofs.YtnhonclncjgjoaaGreatDoor
open Go Go.RowKit Go.Proofs.YtnhonclncjgjoaaGreatDoorW.PrintWords
set_option linter.unusedVariables false
set_option linter.unusedSimpArgs false

theorem infoWordP : (Tryz.prog.info? 148).map (fun i => (i.zero, i.size, i.bytes)) = some (some (.int .u64 0), 1, 8) := by kernel_rfl
theorem newsW (w : World) (x : Int) (T : TypeId) : ∀ j u, [Value.int .u64 x][j]? = some u → (w.alloc (.cells #[.int .u64 x] T)).cell? ((⟨w.heap.size, 0, none⟩ : Addr).add j) = some u := by
  intro j u hj
  match j, hj with
  | 0, hj => simp at hj; subst hj; simp [Addr.add]
theorem newsWc (x : Int) : ∀ u ∈ [Value.int .u64 x], u.oneCell' = true := by intro u hu; simp at hu; subst hu; rfl
/-- Words in a row, the highest first, not trimmed. -/
def PkAt (w : World) (B : Nat) (v : Value) (L : Nat) (x : Int) : Prop := ∃ zs, WRow w B v zs.length (nums .u64 zs) ∧ InW zs ∧ valW zs.reverse = x ∧ zs.length ≤ L
theorem PkAt.form {w : World} {B : Nat} {v : Value} {L : Nat} {x : Int} (h : PkAt w B v L x) : ∃ A n c, v = .slice A n c := by
  obtain ⟨ws, h1, _⟩ := h
  rcases row_form h1 with ⟨rfl, _, _⟩ | ⟨g, c, rfl⟩
  · exact ⟨_, _, _, rfl⟩
  · exact ⟨_, _, _, rfl⟩
theorem PkAt.nil (w : World) (B : Nat) (L : Nat) : PkAt w B (.slice none 0 0) L 0 := ⟨[], World.ownsRow_nil _ _ _ _, by intro x hx; simp at hx, rfl, Nat.zero_le _⟩
theorem PkAt.more {w : World} {B : Nat} {v : Value} {L L' : Nat} {x : Int} (h : PkAt w B v L x) (hL : L ≤ L') : PkAt w B v L' x := by
  obtain ⟨ws, h1, h2, h3, h4⟩ := h
  exact ⟨ws, h1, h2, h3, Nat.le_trans h4 hL⟩
theorem PkAt.same {w w' : World} {B : Nat} {v : Value} {L : Nat} {x : Int} (h : PkAt w B v L x) (hw : ∀ k, B ≤ k → w'.heap[k]? = w.heap[k]?) : PkAt w' B v L x := by
  obtain ⟨ws, ⟨h1, h2⟩, h3⟩ := h
  refine ⟨ws, ⟨h1, ?_⟩, h3⟩
  rcases h2 with h2 | ⟨g, cap, cur, e, hb, hg, r⟩
  · exact .inl h2
  · exact .inr ⟨g, cap, cur, e, hb, (hw g hb).trans hg, r⟩
theorem PkAt.drewN {w : World} {B : Nat} {v : Value} {L : Nat} {x : Int} (h : PkAt w B v L x) (n : Nat) : PkAt (w.drewN n) B v L x := h.same fun k _ => by rw [drewN_heap]
theorem Rst.pk {gr : Nat} {w w' : World} (h : Rst gr w w') {B : Nat} {v : Value} {L : Nat} {x : Int} (hn : PkAt w B v L x) (hg : gr < B) : PkAt w' B v L x :=
  hn.same fun k hk => by
    by_cases hlt : k < w.heap.size
    · exact (h.kept w.heap.size).block k hlt (by omega)
    · rw [Array.getElem?_eq_none (by have := h.size; omega), Array.getElem?_eq_none (by omega)]
theorem PkAt.push {w' : World} {B : Nat} {v' : Value} {L : Nat} {x d : Int} {zs : List Int} (h1 : InW zs) (h2 : valW zs.reverse = x) (h3 : zs.length ≤ L) (h0 : 0 ≤ d) (hd : d < 18446744073709551616) (h : w'.ownsRow B 148 1 v' (zs.length + 1) (nums .u64 zs ++ [.int .u64 d])) : PkAt w' B v' (L + 1) (x * 18446744073709551616 + d) := by
  refine ⟨zs ++ [d], ?_, h1.snoc h0 hd, ?_, by simp; omega⟩
  · rw [nums_append, List.length_append]
    exact h
  · rw [List.reverse_append]
    show valW (d :: zs.reverse) = _
    simp only [valW, h2]
    omega
def SRelP (b : Int) (n k0 : Nat) (s : ByteArray) (gr B : Nat) (a : Addr) (w : World) (R : Option (Int × Bool × Int × Int)) (zv fo cnt errv prev inv ch di i dp : Value) (wr : World) : Prop :=
  ∃ (k : Nat) (X D c p : Int) (j cn : Nat) (iv : Bool) (A : Option Addr) (zn zc : Nat),
    zv = .slice A zn zc ∧ fo = .bool false ∧ cnt = .int .i64 cn ∧ prev = .int .i32 p ∧ inv = .bool iv ∧ ch = .int .u8 c ∧ di = .int .u64 D ∧ i = .int .i64 j ∧ dp = .int .i64 (-1) ∧
    NextAt wr gr s a k (.int .u8 c) errv ∧ k ≤ s.size ∧ cn ≤ k ∧ j ≤ cn ∧ j < n ∧ 0 ≤ D ∧ D < b ^ j ∧ PkAt wr B (.slice A zn zc) cn X ∧ sg b ((bytesOf s).drop k) p iv cn (X * b ^ j + D) = R ∧ KeptB B gr w wr ∧ (k = k0 ∨ 0 < cn ∨ p = 95)
def LExP (b : Int) (n k0 : Nat) (s : ByteArray) (gr B : Nat) (a : Addr) (w : World) (R : Option (Int × Bool × Int × Int)) (zv cnt errv prev inv di i dp : Value) (wr : World) : Prop :=
  ∃ (k : Nat) (X D p : Int) (j cn : Nat) (iv : Bool) (A : Option Addr) (zn zc : Nat),
    zv = .slice A zn zc ∧ cnt = .int .i64 cn ∧ prev = .int .i32 p ∧ inv = .bool iv ∧ di = .int .u64 D ∧ i = .int .i64 j ∧ dp = .int .i64 (-1) ∧
    RdAt wr gr s k ∧ k ≤ s.size ∧ cn ≤ k ∧ j ≤ cn ∧ j < n ∧ 0 ≤ D ∧ D < b ^ j ∧ PkAt wr B (.slice A zn zc) cn X ∧ KeptB B gr w wr ∧
    ((errv = eofV a ∧ k = s.size ∧ R = some (p, iv, (cn : Int), X * b ^ j + D) ∧ (k = k0 ∨ 0 < cn ∨ p = 95)) ∨ (errv = .nilIface ∧ k < s.size ∧ R = none))
theorem big_le {b D d : Int} {j n : Nat} (hb : 2 ≤ b) (h0 : 0 ≤ D) (hD : D < b ^ j) (hd0 : 0 ≤ d) (hd : d < b) (hj : j < n) (hn : b ^ n ≤ 18446744073709551616) : 0 ≤ D * b ∧ D * b + d < b ^ (j + 1) ∧ D * b + d < 18446744073709551616 := by
  have h1 : 0 ≤ D * b := Int.mul_nonneg h0 (by omega)
  have h2 : (D + 1) * b ≤ b ^ j * b := Int.mul_le_mul_of_nonneg_right (by omega) (by omega)
  rw [Int.add_mul, Int.one_mul, ← Int.pow_succ] at h2
  have h3 : b ^ (j + 1) ≤ b ^ n := pow_le (by omega) (by omega)
  generalize b ^ (j + 1) = p at *
  generalize b ^ n = q at *
  omega
/-- The base 2, by a name: powers of it stay shut. -/
def two : Int := 2
theorem pow_of' {b : Int} {m : Nat} (h : powOK b m = true) (i : Nat) (hi : i ≤ m) (P : Int) (hP : b ^ i = P) (w : World) : Calls Tryz.prog 131 #[.int .u64 b, .int .i64 i] w fun e w' => e = .returned (.int .u64 (IntKind.u64.wrap P)) ∧ Drawn0 w w' := by
  subst hP
  exact pow_of h i hi w
/-- A row's words in their order. -/
def OrdAt (w : World) (B : Nat) (v : Value) (L : Nat) (x : Int) : Prop := ∃ ws, WRow w B v ws.length (nums .u64 ws) ∧ InW ws ∧ valW ws = x ∧ ws.length ≤ L
set_option maxRecDepth 100000 in
set_option maxHeartbeats 400000 in
theorem reverse_nil (w : World) : Calls Tryz.prog 132 #[.slice none 0 0] w fun e w' => e = .returned (.tuple #[]) ∧ w = w' := by
  go_enter Tryz.func132, Tryz.ntmps132
  go_wp2
  go_loop [2, 3] (fun i j => i = .int .i64 0 ∧ j = .int .i64 (-1)) (fun _ _ => 0)
  case atStart => exact ⟨rfl, rfl⟩
  case round =>
    obtain ⟨rfl, rfl⟩ := hrel
    go_wp2
    go_end0
    exact ⟨rfl, rfl⟩
theorem reverse_pk (B L : Nat) (hL : L ≤ 900) (v : Value) (x : Int) (w : World) (h : PkAt w B v L x) :
    Calls Tryz.prog 132 #[v] w fun e w' => e = .returned (.tuple #[]) ∧ OrdAt w' B v L x ∧ Below B w w' := by
  obtain ⟨zs, h1, h2, h3, h4⟩ := h
  rcases row_form h1 with ⟨rfl, h0, _⟩ | ⟨g, c, rfl⟩
  · refine (reverse_nil w).mono ?_
    rintro e w' ⟨rfl, rfl⟩
    have : zs = [] := List.eq_nil_of_length_eq_zero h0
    subst this
    exact ⟨rfl, ⟨[], h1, h2, h3, h4⟩, Below.refl _ _⟩
  · refine (reverse_any B g zs.length c zs rfl (by omega) w h1).mono ?_
    rintro e w' ⟨rfl, hr, hb⟩
    refine ⟨rfl, ⟨zs.reverse, ?_, fun y hy => h2 y (List.mem_reverse.1 hy), h3, by rw [List.length_reverse]; exact h4⟩, hb⟩
    rw [List.length_reverse]
    exact hr
theorem norm_ord (B L : Nat) (hL : L ≤ 900) (v : Value) (x : Int) (w : World) (h : OrdAt w B v L x) :
    Calls Tryz.prog 114 #[v] w fun e w' => ∃ v', e = .returned v' ∧ NatAt w' B v' L x ∧ w = w' := by
  obtain ⟨ws, h1, h2, h3, h4⟩ := h
  rcases row_form h1 with ⟨rfl, h0, _⟩ | ⟨g, c, rfl⟩
  · refine (norm0 none 0 w).mono ?_
    rintro e w' ⟨rfl, rfl⟩
    have : ws = [] := List.eq_nil_of_length_eq_zero h0
    subst this
    exact ⟨_, rfl, ⟨[], h1, normal_nil, h3, h4⟩, rfl⟩
  · refine (norm_any' B g ws.length c ws rfl (by omega) h2 w h1).mono ?_
    rintro e w' ⟨i, rfl, hi, hN, hv, rfl⟩
    obtain ⟨zs, hz, hzt, _⟩ := row_cut h1 i (by have := (row_lt h1).2.2.1; omega)
    have hlen : (List.take i ws).length = i := by rw [List.length_take]; omega
    refine ⟨_, rfl, ⟨_, ?_, hN, by rw [hv]; exact h3, by omega⟩, rfl⟩
    rw [hlen]
    have e : nums .u64 (List.take i ws) = zs := by rw [hzt hi]; simp [nums, List.map_take]
    rw [e]
    exact hz
theorem rsh_nat (B L s : Nat) (hL : L ≤ 900) (hs0 : 0 < s) (hs : s < 64) (v : Value) (x : Int) (w : World) (h : NatAt w B v L x) :
    Calls Tryz.prog 133 #[v, v, .int .u64 s] w fun e w' => ∃ v', e = .returned v' ∧ NatAt w' B v' L (x / 2 ^ s) ∧ Below B w w' := by
  obtain ⟨ws, h1, h2, h3, h4⟩ := h
  by_cases h0 : ws = []
  · subst h0
    have hx : x = 0 := h3.symm
    subst hx
    rcases row_form h1 with ⟨rfl, _, _⟩ | ⟨g, c, rfl⟩ <;>
    · refine (rsh_empty _ _ s hs0 hs w).mono ?_
      rintro e w' ⟨rfl, rfl⟩
      exact ⟨_, rfl, ⟨[], h1, normal_nil, by rw [Int.zero_ediv]; rfl, Nat.zero_le _⟩, Below.refl _ _⟩
  · have hpos : 0 < ws.length := by
      cases ws with
      | nil => exact absurd rfl h0
      | cons a t => simp
    rcases row_form h1 with ⟨_, h0, _⟩ | ⟨g, c, rfl⟩
    · omega
    · refine (rsh_some B g ws.length c s hs0 hs ws h2.1 rfl hpos (by omega) w h1).mono ?_
      rintro e w' ⟨v', rfl, hn, hb⟩
      rw [h3] at hn
      exact ⟨v', rfl, hn.more h4, hb⟩
def pkOK (b n q : Nat) : Bool := (List.range n).all fun j => decide (j = 0 ∨ (1 ≤ b ^ (n - j) ∧ b ^ (n - j) < 18446744073709551616 ∧ b ^ j * b ^ (n - j) = 18446744073709551616 ∧ b ^ (n - j) = 2 ^ ((n - j) * q)))
theorem pk_ok16 : pkOK 16 16 4 = true := by decide +kernel
theorem pk_ok2 : pkOK 2 64 1 = true := by decide +kernel
theorem pk_of {b n q0 : Nat} (h : pkOK b n q0 = true) (j r q : Nat) (hr : n - j = r) (hq : r * q0 = q) (h0 : 0 < j) (h1 : j < n) : 1 ≤ ((b : Nat) : Int) ^ r ∧ ((b : Nat) : Int) ^ r < 18446744073709551616 ∧ ((b : Nat) : Int) ^ j * ((b : Nat) : Int) ^ r = 18446744073709551616 ∧ ((b : Nat) : Int) ^ r = 2 ^ q := by
  have := of_decide_eq_true (List.all_eq_true.1 h j (List.mem_range.2 h1))
  subst hr hq
  obtain ⟨a1, a2, a3, a4⟩ := this.resolve_left (by omega)
  have e : ∀ k : Nat, ((b : Nat) : Int) ^ k = ((b ^ k : Nat) : Int) := fun k => by simp
  have e2 : (2 : Int) ^ ((n - j) * q0) = ((2 ^ ((n - j) * q0) : Nat) : Int) := by simp
  rw [e, e, e2]
  refine ⟨Int.ofNat_le.2 a1, Int.ofNat_lt.2 a2, ?_, by rw [a4]⟩
  rw [← Int.natCast_mul, a3]
  rfl
theorem pk_pows16 (j r q : Nat) (hr : 16 - j = r) (hq : r * 4 = q) (h0 : 0 < j) (h1 : j < 16) : 1 ≤ (16 : Int) ^ r ∧ (16 : Int) ^ r < 18446744073709551616 ∧ (16 : Int) ^ j * 16 ^ r = 18446744073709551616 ∧ (16 : Int) ^ r = 2 ^ q := pk_of pk_ok16 j r q hr hq h0 h1
theorem pk_pows2 (j r q : Nat) (hr : 64 - j = r) (hq : r * 1 = q) (h0 : 0 < j) (h1 : j < 64) : 1 ≤ (2 : Int) ^ r ∧ (2 : Int) ^ r < 18446744073709551616 ∧ (2 : Int) ^ j * 2 ^ r = 18446744073709551616 ∧ (2 : Int) ^ r = 2 ^ q := pk_of pk_ok2 j r q hr hq h0 h1
theorem pk_last {b D P : Int} {j : Nat} (h0 : 0 ≤ D) (h1 : D < b ^ j) (hP : 1 ≤ P) (h : b ^ j * P = 18446744073709551616) : 0 ≤ D * P ∧ D * P < 18446744073709551616 := by
  refine ⟨Int.mul_nonneg h0 (by omega), ?_⟩
  rw [← h]
  exact Int.mul_lt_mul_of_pos_right h1 (by omega)
theorem pk_shift {X D b P : Int} {j : Nat} (h : b ^ j * P = 18446744073709551616) (hP : 1 ≤ P) : (X * 18446744073709551616 + D * P) / P = X * b ^ j + D := by
  rw [← h, ← Int.mul_assoc, ← Int.add_mul]
  exact Int.mul_ediv_cancel _ (by omega)
end Go.Proofs.YtnhonclncjgjoaaGreatDoor

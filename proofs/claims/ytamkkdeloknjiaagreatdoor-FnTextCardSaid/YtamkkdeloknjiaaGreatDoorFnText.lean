/- Joined of: TextA TextB TextC Alive FnText. -/
import Derived.Test.YtamkkdeloknjiaaGreatDoorTextOf
import Derived.Test.YtamkkdeloknjiaaGreatDoorUnqAny
import Derived.Test.YtamkkdeloknjiaaGreatDoorShelf
import Derived.Test.YtamkkdeloknjiaaGreatDoorSeven
import Derived.Test.YtamkkdeloknjiaaGreatDoorPint
import Derived.Test.YtamkkdeloknjiaaGreatDoorLitBase
import Derived.Deep.RegionHeld3
namespace Go.Proofs.YtamkkdeloknjiaaGreatDoor
open Go Go.RowKit Go.Proofs.YtamkkdeloknjiaaGreatDoorW.PrintWords Ps
set_option linter.unusedVariables false
set_option linter.unusedSimpArgs false

theorem ixL_none {l : List Int} {c : Int} (h : ixL l c = -1) : c ∉ l := by
  induction l with
  | nil => simp
  | cons b l ih =>
    unfold ixL at h
    by_cases e : b = c
    · rw [if_pos e] at h; omega
    · rw [if_neg e] at h
      by_cases k : ixL l c = -1
      · have := ih k
        simp only [List.mem_cons, not_or]
        exact ⟨fun x => e x.symm, this⟩
      · rw [if_neg k] at h
        have := ixL_ge l c
        omega
theorem ixL_at {c : Int} : ∀ {l : List Int} {i : Nat}, ixL l c = (i : Int) → c ∉ l.take i ∧ l.drop i = c :: l.drop (i + 1) := by
  intro l
  induction l with
  | nil => intro i h; simp only [ixL] at h; omega
  | cons b l ih =>
    intro i h
    unfold ixL at h
    by_cases e : b = c
    · rw [if_pos e] at h
      obtain rfl : i = 0 := by omega
      simp [e]
    · rw [if_neg e] at h
      by_cases k : ixL l c = -1
      · rw [if_pos k] at h; omega
      · rw [if_neg k] at h
        have hg := ixL_ge l c
        obtain ⟨j, rfl⟩ : ∃ j, i = j + 1 := ⟨i - 1, by omega⟩
        have := ih (i := j) (by omega)
        refine ⟨?_, ?_⟩
        · rw [List.take_succ_cons, List.mem_cons, not_or]
          exact ⟨fun x => e x.symm, this.1⟩
        · rw [List.drop_succ_cons, List.drop_succ_cons]
          exact this.2
theorem rawRef_no (l : List Int) : ∀ acc, (96 : Int) ∉ l → rawRef l acc = some (rawGo l acc) := by
  induction l with
  | nil => intro acc _; rfl
  | cons c l ih =>
    intro acc h
    simp only [List.mem_cons, not_or] at h
    rw [rawRef_cons, rawGo_cons, if_neg (fun e => h.1 e.symm)]
    split <;> exact ih _ h.2
theorem rawRef_yes (l : List Int) : ∀ acc, (96 : Int) ∈ l → rawRef l acc = none := by
  induction l with
  | nil => intro acc h; simp at h
  | cons c l ih =>
    intro acc h
    rw [rawRef_cons]
    by_cases e : c = 96
    · rw [if_pos e]
    · rw [if_neg e]
      simp only [List.mem_cons] at h
      rcases h with h | h
      · exact absurd h.symm e
      · split <;> exact ih _ h
theorem rawGo_id (l : List Int) : ∀ acc, (13 : Int) ∉ l → rawGo l acc = acc ++ l := by
  induction l with
  | nil => intro acc _; simp [rawGo]
  | cons c l ih =>
    intro acc h
    simp only [List.mem_cons, not_or] at h
    rw [rawGo_cons, if_neg (fun e => h.1 e.symm), ih _ h.2]
    simp
theorem strOf_bytes (s : ByteArray) : strOfNums (bytesOf s) = s := by
  obtain ⟨⟨l⟩⟩ := s
  unfold strOfNums bytesOf
  simp only [List.map_map]
  congr 2
  apply List.ext_getElem
  · simp
  · intro i h1 h2
    simp

/-! ### escapes are local -/
theorem take_app (l m : List Int) (n : Nat) (h : n ≤ l.length) : (l ++ m).take n = l.take n := List.take_append_of_le_length h
theorem esc_app (q : Int) (U V : List Int) (x : Int × Bool × Int) (h : escF q U = some x) : escF q (U ++ V) = some x := by
  cases U with
  | nil => simp [escF] at h
  | cons c t =>
    rw [List.cons_append]
    cases hl : letter c with
    | some v => rw [escF_some hl] at h ⊢; exact h
    | none =>
      rw [escF_none hl] at h ⊢
      unfold escRest at h ⊢
      by_cases e5 : c = q
      · rw [if_pos e5] at h ⊢; exact h
      rw [if_neg e5] at h ⊢
      by_cases e1 : c = 120
      · rw [if_pos e1] at h ⊢
        by_cases hn : t.length < 2
        · rw [if_pos hn] at h; simp at h
        · rw [if_neg hn] at h
          rw [if_neg (by rw [List.length_append]; omega), take_app _ _ _ (by omega)]; exact h
      rw [if_neg e1] at h ⊢
      by_cases e2 : c = 117
      · rw [if_pos e2] at h ⊢
        by_cases hn : t.length < 4
        · rw [if_pos hn] at h; simp at h
        · rw [if_neg hn] at h
          rw [if_neg (by rw [List.length_append]; omega), take_app _ _ _ (by omega)]; exact h
      rw [if_neg e2] at h ⊢
      by_cases e3 : c = 85
      · rw [if_pos e3] at h ⊢
        by_cases hn : t.length < 8
        · rw [if_pos hn] at h; simp at h
        · rw [if_neg hn] at h
          rw [if_neg (by rw [List.length_append]; omega), take_app _ _ _ (by omega)]; exact h
      rw [if_neg e3] at h ⊢
      by_cases hn : t.length < 2
      · rw [if_pos hn] at h; simp at h
      · rw [if_neg hn] at h
        rw [if_neg (by rw [List.length_append]; omega), take_app _ _ _ (by omega)]; exact h
/-- The bytes that an escape reads are below 128, and it reads as well where the text ends behind them. -/
theorem dgt_ascii (b c : Int) (hb : b ≤ 16) (h : ¬ b ≤ dgt c) : c < 128 := by
  unfold dgt at h
  by_cases a : 48 ≤ c ∧ c ≤ 57
  · omega
  · rw [if_neg a] at h
    by_cases a2 : 97 ≤ c ∧ c ≤ 122
    · omega
    · rw [if_neg a2] at h
      by_cases a3 : 65 ≤ c ∧ c ≤ 90
      · omega
      · rw [if_neg a3] at h; omega
theorem escGo_ascii (b : Int) (hb : b ≤ 16) (l : List Int) : ∀ V r, escGo b V l = some r → ∀ c ∈ l, c < 128 := by
  induction l with
  | nil => intro V r _ c hc; simp at hc
  | cons d l ih =>
    intro V r h c hc
    rw [escGo_cons] at h
    by_cases e : b ≤ dgt d
    · rw [if_pos e] at h; simp at h
    · rw [if_neg e] at h
      rcases List.mem_cons.1 hc with rfl | hc
      · exact dgt_ascii b _ hb e
      · exact ih _ _ h c hc
theorem letter_ascii (c x : Int) (h : letter c = some x) : c < 128 := by
  unfold letter at h
  repeat' split at h
  all_goals first | omega | simp at h
theorem esc_ascii (q : Int) (hq : q < 128) (U : List Int) (v n : Int) (m : Bool) (h : escF q U = some (v, m, n)) : ∀ c ∈ U.take n.toNat, c < 128 := by
  cases U with
  | nil => simp [escF] at h
  | cons c t =>
    cases hl : letter c with
    | some x =>
      rw [escF_some hl] at h
      simp only [Option.some.injEq, Prod.mk.injEq] at h
      obtain ⟨rfl, rfl, rfl⟩ := h
      intro d hd
      simp at hd
      subst hd
      exact letter_ascii _ _ hl
    | none =>
      rw [escF_none hl] at h
      unfold escRest at h
      by_cases e5 : c = q
      · rw [if_pos e5] at h
        simp only [Option.some.injEq, Prod.mk.injEq] at h
        obtain ⟨rfl, rfl, rfl⟩ := h
        intro d hd
        simp at hd
        omega
      rw [if_neg e5] at h
      by_cases e1 : c = 120
      · rw [if_pos e1] at h
        by_cases hn : t.length < 2
        · rw [if_pos hn] at h; simp at h
        · rw [if_neg hn] at h
          cases hg : escGo 16 0 (t.take 2) with
          | none => rw [hg] at h; simp at h
          | some x =>
            rw [hg] at h
            simp only [Option.bind_some, Option.some.injEq, Prod.mk.injEq] at h
            obtain ⟨rfl, rfl, rfl⟩ := h
            intro d hd
            rw [show (3 : Int).toNat = 2 + 1 by rfl, List.take_succ_cons, List.mem_cons] at hd
            rcases hd with rfl | hd
            · omega
            · exact escGo_ascii 16 (by omega) _ _ _ hg d hd
      rw [if_neg e1] at h
      by_cases e2 : c = 117
      · rw [if_pos e2] at h
        by_cases hn : t.length < 4
        · rw [if_pos hn] at h; simp at h
        · rw [if_neg hn] at h
          cases hg : escGo 16 0 (t.take 4) with
          | none => rw [hg] at h; simp at h
          | some x =>
            rw [hg] at h
            simp only [Option.bind_some] at h
            by_cases hb : badR x
            · rw [if_pos hb] at h; simp at h
            · rw [if_neg hb] at h
              simp only [Option.some.injEq, Prod.mk.injEq] at h
              obtain ⟨rfl, rfl, rfl⟩ := h
              intro d hd
              rw [show (5 : Int).toNat = 4 + 1 by rfl, List.take_succ_cons, List.mem_cons] at hd
              rcases hd with rfl | hd
              · omega
              · exact escGo_ascii 16 (by omega) _ _ _ hg d hd
      rw [if_neg e2] at h
      by_cases e3 : c = 85
      · rw [if_pos e3] at h
        by_cases hn : t.length < 8
        · rw [if_pos hn] at h; simp at h
        · rw [if_neg hn] at h
          cases hg : escGo 16 0 (t.take 8) with
          | none => rw [hg] at h; simp at h
          | some x =>
            rw [hg] at h
            simp only [Option.bind_some] at h
            by_cases hb : badR x
            · rw [if_pos hb] at h; simp at h
            · rw [if_neg hb] at h
              simp only [Option.some.injEq, Prod.mk.injEq] at h
              obtain ⟨rfl, rfl, rfl⟩ := h
              intro d hd
              rw [show (9 : Int).toNat = 8 + 1 by rfl, List.take_succ_cons, List.mem_cons] at hd
              rcases hd with rfl | hd
              · omega
              · exact escGo_ascii 16 (by omega) _ _ _ hg d hd
      rw [if_neg e3] at h
      by_cases hn : t.length < 2
      · rw [if_pos hn] at h; simp at h
      · rw [if_neg hn] at h
        cases hg : escGo 8 0 (c :: t.take 2) with
        | none => rw [hg] at h; simp at h
        | some x =>
          rw [hg] at h
          simp only [Option.bind_some] at h
          by_cases hb : 255 < x
          · rw [if_pos hb] at h; simp at h
          · rw [if_neg hb] at h
            simp only [Option.some.injEq, Prod.mk.injEq] at h
            obtain ⟨rfl, rfl, rfl⟩ := h
            intro d hd
            rw [show (3 : Int).toNat = 2 + 1 by rfl, List.take_succ_cons] at hd
            exact escGo_ascii 8 (by omega) _ _ _ hg d hd
/-- Where an escape reads within a text, it reads so in the text alone. -/
theorem esc_back (q : Int) (U V : List Int) (v n : Int) (m : Bool) (h : escF q (U ++ V) = some (v, m, n)) (hn : n ≤ U.length) : escF q U = some (v, m, n) := by
  cases U with
  | nil =>
    have hf := esc_len q _ v n m h
    simp at hn
    omega
  | cons c t =>
    rw [List.cons_append] at h
    rw [List.length_cons] at hn
    cases hl : letter c with
    | some x => rw [escF_some hl] at h ⊢; exact h
    | none =>
      rw [escF_none hl] at h ⊢
      unfold escRest at h ⊢
      by_cases e5 : c = q
      · rw [if_pos e5] at h ⊢; exact h
      rw [if_neg e5] at h ⊢
      by_cases e1 : c = 120
      · rw [if_pos e1] at h ⊢
        by_cases k : (t ++ V).length < 2
        · rw [if_pos k] at h; simp at h
        · rw [if_neg k] at h
          have h3 : n = 3 := by
            cases hg : escGo 16 0 ((t ++ V).take 2) with
            | none => rw [hg] at h; simp at h
            | some x => rw [hg] at h; simp only [Option.bind_some, Option.some.injEq, Prod.mk.injEq] at h; omega
          rw [take_app _ _ _ (by omega)] at h
          rw [if_neg (by omega)]; exact h
      rw [if_neg e1] at h ⊢
      by_cases e2 : c = 117
      · rw [if_pos e2] at h ⊢
        by_cases k : (t ++ V).length < 4
        · rw [if_pos k] at h; simp at h
        · rw [if_neg k] at h
          have h3 : n = 5 := by
            cases hg : escGo 16 0 ((t ++ V).take 4) with
            | none => rw [hg] at h; simp at h
            | some x =>
              rw [hg] at h
              simp only [Option.bind_some] at h
              by_cases hb : badR x
              · rw [if_pos hb] at h; simp at h
              · rw [if_neg hb] at h; simp only [Option.some.injEq, Prod.mk.injEq] at h; omega
          rw [take_app _ _ _ (by omega)] at h
          rw [if_neg (by omega)]; exact h
      rw [if_neg e2] at h ⊢
      by_cases e3 : c = 85
      · rw [if_pos e3] at h ⊢
        by_cases k : (t ++ V).length < 8
        · rw [if_pos k] at h; simp at h
        · rw [if_neg k] at h
          have h3 : n = 9 := by
            cases hg : escGo 16 0 ((t ++ V).take 8) with
            | none => rw [hg] at h; simp at h
            | some x =>
              rw [hg] at h
              simp only [Option.bind_some] at h
              by_cases hb : badR x
              · rw [if_pos hb] at h; simp at h
              · rw [if_neg hb] at h; simp only [Option.some.injEq, Prod.mk.injEq] at h; omega
          rw [take_app _ _ _ (by omega)] at h
          rw [if_neg (by omega)]; exact h
      rw [if_neg e3] at h ⊢
      by_cases k : (t ++ V).length < 2
      · rw [if_pos k] at h; simp at h
      · rw [if_neg k] at h
        have h3 : n = 3 := by
          cases hg : escGo 8 0 (c :: (t ++ V).take 2) with
          | none => rw [hg] at h; simp at h
          | some x =>
            rw [hg] at h
            simp only [Option.bind_some] at h
            by_cases hb : 255 < x
            · rw [if_pos hb] at h; simp at h
            · rw [if_neg hb] at h; simp only [Option.some.injEq, Prod.mk.injEq] at h; omega
        rw [take_app _ _ _ (by omega)] at h
        rw [if_neg (by omega)]; exact h
end Go.Proofs.YtamkkdeloknjiaaGreatDoor

namespace Go.Proofs.YtamkkdeloknjiaaGreatDoor
open Go Go.RowKit Go.Proofs.YtamkkdeloknjiaaGreatDoorW.PrintWords Ps
set_option linter.unusedVariables false
set_option linter.unusedSimpArgs false

theorem wr64 (x : Int) (h0 : 0 ≤ x) (h1 : x < 9223372036854775808) : wrap64 x = x := by unfold wrap64; omega
theorem encW_low (v : Int) (h0 : 0 ≤ v) (h : v < 128) : encW v = [v] := by
  unfold encW Pt.spec_Encoded.f
  rw [if_pos h]
  simp only [Option.getD_some]
  rw [show v % 256 = v by omega]
theorem encW_high (v : Int) (h0 : 128 ≤ v) (hb : ¬ badR v) : encW v = Lib.encodeRuneZ v := by
  unfold badR at hb
  unfold encW Pt.spec_Encoded.f
  have t : ∀ d : Int, Int.tdiv v d = v / d := fun d => Int.tdiv_eq_ediv_of_nonneg (by omega)
  have m : Int.tmod v 64 = v % 64 := Int.tmod_eq_emod_of_nonneg (by omega)
  rw [if_neg (by omega)]
  simp only [t, m]
  by_cases c1 : v < 2048
  · rw [if_pos c1, Lib.encodeRuneZ_two h0 (by omega)]
    simp only [Option.getD_some]
    rw [wr64 (v / 64) (by omega) (by omega), wr64 (192 + v / 64) (by omega) (by omega), wr64 (128 + v % 64) (by omega) (by omega), show (192 + v / 64) % 256 = 192 + v / 64 by omega, show (128 + v % 64) % 256 = 128 + v % 64 by omega]
  rw [if_neg c1]
  have m2 : Int.tmod (v / 64) 64 = v / 64 % 64 := Int.tmod_eq_emod_of_nonneg (by omega)
  by_cases c2 : v < 65536
  · rw [if_pos c2, Lib.encodeRuneZ_three (by omega)]
    simp only [Option.getD_some]
    rw [wr64 (v / 64) (by omega) (by omega), wr64 (v / 4096) (by omega) (by omega), wr64 (224 + v / 4096) (by omega) (by omega), m2, wr64 (128 + v / 64 % 64) (by omega) (by omega), wr64 (128 + v % 64) (by omega) (by omega), show (224 + v / 4096) % 256 = 224 + v / 4096 by omega, show (128 + v / 64 % 64) % 256 = 128 + v / 64 % 64 by omega, show (128 + v % 64) % 256 = 128 + v % 64 by omega]
  rw [if_neg c2, Lib.encodeRuneZ_four (by omega) (by omega)]
  have m3 : Int.tmod (v / 4096) 64 = v / 4096 % 64 := Int.tmod_eq_emod_of_nonneg (by omega)
  simp only [Option.getD_some]
  rw [wr64 (v / 64) (by omega) (by omega), wr64 (v / 4096) (by omega) (by omega), wr64 (v / 262144) (by omega) (by omega), wr64 (240 + v / 262144) (by omega) (by omega), m2, m3, wr64 (128 + v / 64 % 64) (by omega) (by omega), wr64 (128 + v / 4096 % 64) (by omega) (by omega), wr64 (128 + v % 64) (by omega) (by omega), show (240 + v / 262144) % 256 = 240 + v / 262144 by omega, show (128 + v / 64 % 64) % 256 = 128 + v / 64 % 64 by omega, show (128 + v / 4096 % 64) % 256 = 128 + v / 4096 % 64 by omega, show (128 + v % 64) % 256 = 128 + v % 64 by omega]

/-- A character of several bytes, written again, gives its bytes. -/
theorem rn_enc (n b0 b1 b2 b3 : Nat) (h0 : b0 < 256) (h1 : b1 < 256) (h2 : b2 < 256) (h3 : b3 < 256) (hh : 128 ≤ b0) (hp : 0 < (rnN n b0 b1 b2 b3).2) :
    Lib.encodeRuneZ ((rnN n b0 b1 b2 b3).1 : Nat) = ([(b0 : Int), b1, b2, b3] : List Int).take (rnN n b0 b1 b2 b3).2 := by
  revert hp
  unfold rnN
  by_cases cn : n = 0
  · rw [if_pos cn]; intro hp; exact absurd hp (by decide)
  rw [if_neg cn, if_neg (by omega)]
  by_cases c1 : 194 ≤ b0 ∧ b0 < 224
  · rw [if_pos c1]
    by_cases a : n < 2 ∨ b1 / 64 ≠ 2
    · rw [if_pos a]; intro hp; exact absurd hp (by decide)
    · rw [if_neg a]; intro _
      simp only []
      rw [Lib.encodeRuneZ_two (by omega) (by omega)]
      show _ = [(b0 : Int), (b1 : Int)]
      congr 1
      · omega
      · congr 1; omega
  rw [if_neg c1]
  by_cases c2 : 224 ≤ b0 ∧ b0 < 240
  · rw [if_pos c2]
    by_cases a : n < 3 ∨ b1 / 64 ≠ 2 ∨ b2 / 64 ≠ 2
    · rw [if_pos a]; intro hp; exact absurd hp (by decide)
    · rw [if_neg a]
      by_cases a2 : b0 % 16 * 4096 + b1 % 64 * 64 + b2 % 64 < 2048 ∨ (55296 ≤ b0 % 16 * 4096 + b1 % 64 * 64 + b2 % 64 ∧ b0 % 16 * 4096 + b1 % 64 * 64 + b2 % 64 < 57344)
      · rw [if_pos a2]; intro hp; exact absurd hp (by decide)
      · rw [if_neg a2]; intro _
        simp only []
        rw [Lib.encodeRuneZ_three (by omega)]
        show _ = [(b0 : Int), (b1 : Int), (b2 : Int)]
        congr 1
        · omega
        · congr 1
          · omega
          · congr 1; omega
  rw [if_neg c2]
  by_cases c3 : 240 ≤ b0 ∧ b0 < 245
  · rw [if_pos c3]
    by_cases a : n < 4 ∨ b1 / 64 ≠ 2 ∨ b2 / 64 ≠ 2 ∨ b3 / 64 ≠ 2
    · rw [if_pos a]; intro hp; exact absurd hp (by decide)
    · rw [if_neg a]
      by_cases a2 : b0 % 8 * 262144 + b1 % 64 * 4096 + b2 % 64 * 64 + b3 % 64 < 65536 ∨ 1114111 < b0 % 8 * 262144 + b1 % 64 * 4096 + b2 % 64 * 64 + b3 % 64
      · rw [if_pos a2]; intro hp; exact absurd hp (by decide)
      · rw [if_neg a2]; intro _
        simp only []
        rw [Lib.encodeRuneZ_four (by omega) (by omega)]
        show _ = [(b0 : Int), (b1 : Int), (b2 : Int), (b3 : Int)]
        congr 1
        · omega
        · congr 1
          · omega
          · congr 1
            · omega
            · congr 1; omega
  rw [if_neg c3]
  intro hp; exact absurd hp (by decide)

theorem bytes_len (s : ByteArray) : (bytesOf s).length = s.size := by unfold bytesOf; simp
theorem bytes_at (s : ByteArray) (i : Nat) (h : i < (bytesOf s).length) : (bytesOf s)[i] = bt s i := by
  have h2 : i < s.size := by rw [← bytes_len]; exact h
  have h3 := bt_at s i (by simpa using h2)
  have h4 : (bytesOf s)[i]? = some (bt s i) := by
    rw [← h3]
    unfold bytesOf
    rw [List.getElem?_map, List.getElem?_eq_getElem (show i < s.data.toList.length by simpa using h2)]
    rfl
  rw [List.getElem?_eq_getElem h] at h4
  exact Option.some.inj h4
theorem bytes_pre (s : ByteArray) (a b : Nat) (hb : b ≤ s.size) : bytesOf (s.extract a b) = ((bytesOf s).take b).drop a := by
  apply List.ext_getElem
  · rw [bytes_len, List.length_drop, List.length_take, bytes_len, ByteArray.size_extract]; try omega
  · intro i h1 h2
    rw [bytes_at, List.getElem_drop, List.getElem_take, bytes_at]
    have hz := bytes_len (s.extract a b)
    rw [ByteArray.size_extract] at hz
    exact bt_cut s a b i (by omega) hb
theorem bn_cast (s : ByteArray) (i : Int) : ((bn s i : Nat) : Int) = bt s i := bn_bt s i
theorem take4 (s : ByteArray) (n : Nat) (h4 : n ≤ 4) (hn : n ≤ s.size) : ([bt s 0, bt s 1, bt s 2, bt s 3] : List Int).take n = bytesOf (s.extract 0 n) := by
  rw [bytes_pre s 0 n hn, List.drop_zero]
  apply List.ext_getElem
  · simp [bytes_len]; omega
  · intro i h1 h2
    have hi : i < n := by simp at h1; omega
    rw [List.getElem_take, List.getElem_take, bytes_at]
    have : i = 0 ∨ i = 1 ∨ i = 2 ∨ i = 3 := by omega
    rcases this with rfl | rfl | rfl | rfl <;> rfl
theorem rnS_enc (T : ByteArray) (hh : 128 ≤ bt T 0) (hp : 0 < (rnS T).2) : Lib.encodeRuneZ ((rnS T).1 : Nat) = bytesOf (T.extract 0 (rnS T).2) := by
  have hl := rn_le T.size (bn T 0) (bn T 1) (bn T 2) (bn T 3)
  have hb := bn_cast T 0
  rw [← take4 T (rnS T).2 hl.2.1 hl.1, ← bn_cast T 0, ← bn_cast T 1, ← bn_cast T 2, ← bn_cast T 3]
  exact rn_enc _ _ _ _ _ (bn_lt T 0) (bn_lt T 1) (bn_lt T 2) (bn_lt T 3) (by omega) hp

/-! ### a text with one more quote -/
structure Shut (T T' : ByteArray) : Prop where
  b : bytesOf T' = bytesOf T ++ [34]
theorem Shut.size {T T' : ByteArray} (h : Shut T T') : T'.size = T.size + 1 := by
  have := congrArg List.length h.b
  rw [bytes_len, List.length_append, bytes_len] at this
  simpa using this
theorem Shut.lt {T T' : ByteArray} (h : Shut T T') (i : Nat) (hi : i < T.size) : bt T' i = bt T i := by
  have hz := h.size
  have h1 := bytes_at T' i (by rw [bytes_len]; omega)
  have h2 := bytes_at T i (by rw [bytes_len]; omega)
  rw [← h1, ← h2]
  have e := h.b
  simp only [e]
  rw [List.getElem_append_left]
theorem Shut.last {T T' : ByteArray} (h : Shut T T') (i : Nat) (hi : i = T.size) : bt T' i = 34 := by
  have hz := h.size
  have h1 := bytes_at T' i (by rw [bytes_len]; omega)
  rw [← h1]
  have e := h.b
  simp only [e]
  rw [List.getElem_append_right (by rw [bytes_len]; omega)]
  simp
theorem Shut.drop {T T' : ByteArray} (h : Shut T T') (n : Nat) (hn : n ≤ T.size) : Shut (T.extract n T.size) (T'.extract n T'.size) := by
  have hz := h.size
  refine ⟨?_⟩
  rw [bytes_extract _ _ (by omega), bytes_extract _ _ hn, h.b, List.drop_append_of_le_length (by rw [bytes_len]; omega)]
theorem Shut.rn {T T' : ByteArray} (h : Shut T T') (h0 : 0 < T.size) (hp : 0 < (rnS T').2) : rnS T = rnS T' := by
  have hz := h.size
  unfold rnS at hp ⊢
  rw [hz] at hp ⊢
  have same : ∀ i : Nat, i < T.size → bn T' i = bn T i := by
    intro i hi
    unfold bn
    rw [h.lt i hi]
  have last : ∀ i : Nat, T.size = i → bn T' i < 128 := by
    intro i hi
    unfold bn
    rw [h.last i hi.symm]
    decide
  have s0 := same 0 (by omega)
  rw [show bn T' 0 = bn T 0 from s0] at hp ⊢
  exact rn_cut _ _ _ _ _ _ _ _ (by omega) (fun h => same 1 h) (fun h => last 1 h) (fun h => same 2 h) (fun h => last 2 h) (fun h => same 3 h) (fun h => last 3 h) hp
theorem rnS_ascii (T : ByteArray) (h0 : 0 < T.size) (h : bt T 0 < 128) : rnS T = (bn T 0, 1) := by
  have hb := bn_cast T 0
  unfold rnS rnN
  rw [if_neg (by omega), if_pos (by omega)]
theorem bytes_cons (T : ByteArray) (h0 : 0 < T.size) : bytesOf T = bt T 0 :: bytesOf (T.extract 1 T.size) := by
  rw [bytes_extract T 1 (by omega)]
  have h1 := bytes_at T 0 (by rw [bytes_len]; omega)
  have h2 : 0 < (bytesOf T).length := by rw [bytes_len]; omega
  have h3 := List.drop_eq_getElem_cons h2
  rw [List.drop_zero] at h3
  rw [h1] at h3
  exact h3
theorem extract_all (T : ByteArray) : T.extract 0 T.size = T := by simp
theorem vt_ascii : ∀ (n : Nat) (X : ByteArray), VT X → n ≤ X.size → (∀ c ∈ (bytesOf X).take n, c < 128) → VT (X.extract n X.size) := by
  intro n
  induction n with
  | zero => intro X h _ _; rw [extract_all]; exact h
  | succ n ih =>
    intro X h hn hc
    rw [bytes_cons X (by omega), List.take_succ_cons] at hc
    have h0 := hc _ (List.mem_cons_self ..)
    have hs := (vt_step X h (by omega)).2
    rw [rnS_ascii X (by omega) h0] at hs
    have := ih _ hs (by rw [size_cut]; omega) (fun c k => hc c (List.mem_cons_of_mem _ k))
    rw [extract_two, Nat.add_comm] at this
    exact this

theorem sim : ∀ (k : Nat) (T T' : ByteArray) (acc : List Int), Shut T T' → VT T' → T.size < k →
    (∀ o, dqRef k T acc = some o → ∃ r, uqLoop (k + 1) T' acc = some (o, r) ∧ r.size = 0) ∧ (dqRef k T acc = none → ∀ o r, uqLoop (k + 1) T' acc = some (o, r) → 0 < r.size) := by
  intro k
  induction k with
  | zero => intro T T' acc _ _ h; omega
  | succ k ih =>
    intro T T' acc hS hV hk
    have hz := hS.size
    rw [show uqLoop (k + 1 + 1) T' acc = (if T'.size = 0 then none
    else if bt T' 0 = 34 then some (acc, T'.extract 1 T'.size)
    else if bt T' 0 = 10 then none
    else match ucF (decT T') 34 T' with
      | none => none
      | some (r, m, rem) => uqLoop (k + 1) rem (acc ++ chunkU r m)) from rfl, show dqRef (k + 1) T acc = (if T.size = 0 then some acc
    else if bt T 0 = 10 ∨ bt T 0 = 34 then none
    else if bt T 0 ≠ 92 then (if (rnS T).2 = 0 then none else dqRef k (T.extract (rnS T).2 T.size) (acc ++ bytesOf (T.extract 0 (rnS T).2)))
    else match escF 34 (bytesOf (T.extract 1 T.size)) with
      | none => none
      | some (v, m, n) => dqRef k (T.extract (1 + n).toNat T.size) (acc ++ (if m = true then [v] else encW v))) from rfl, if_neg (show ¬ T'.size = 0 by omega)]
    by_cases h0 : T.size = 0
    · have hl : bt T' 0 = 34 := hS.last 0 (by omega)
      rw [if_pos h0, if_pos hl]
      refine ⟨fun o ho => ⟨T'.extract 1 T'.size, ?_, ?_⟩, fun h => by simp at h⟩
      · simp only [Option.some.injEq] at ho; rw [ho]
      · rw [size_cut]; omega
    rw [if_neg h0]
    have e0 : bt T' 0 = bt T 0 := hS.lt 0 (by omega)
    by_cases h34 : bt T 0 = 34
    · rw [if_pos (Or.inr h34), if_pos (by omega)]
      refine ⟨fun o ho => by simp at ho, fun _ o r h => ?_⟩
      simp only [Option.some.injEq, Prod.mk.injEq] at h
      rw [← h.2, size_cut]; omega
    rw [if_neg (show ¬ bt T' 0 = 34 by omega)]
    by_cases h10 : bt T 0 = 10
    · rw [if_pos (Or.inl h10), if_pos (by omega)]
      exact ⟨fun o ho => by simp at ho, fun _ o r h => by simp at h⟩
    rw [if_neg (by omega), if_neg (show ¬ bt T' 0 = 10 by omega)]
    have hst := vt_step T' hV (by omega)
    have hrn := hS.rn (by omega) hst.1
    by_cases h92 : bt T 0 = 92
    · rw [if_neg (fun h => h h92)]
      have hb1 : bytesOf (T.extract 1 T.size) = (bytesOf T).drop 1 := bytes_extract T 1 (by omega)
      have hb2 : (bytesOf T').drop 1 = bytesOf (T.extract 1 T.size) ++ [34] := by
        rw [hb1, hS.b, List.drop_append_of_le_length (by rw [bytes_len]; omega)]
      have hU : (bytesOf (T.extract 1 T.size)).length = T.size - 1 := by rw [bytes_len, size_cut]
      have hu : ucF (decT T') 34 T' = (escF 34 (bytesOf (T.extract 1 T.size) ++ [34])).map fun x => ((turnE x).1, (turnE x).2.1, T'.extract ((turnE x).2.2 + 1).toNat T'.size) := by
        unfold ucF
        rw [if_neg (by omega), if_neg (by omega), if_neg (by omega), if_neg (by omega), uc_esc 34 (Or.inr rfl), hb2, Option.map_map]
        rfl
      rw [hu]
      cases hE : escF 34 (bytesOf (T.extract 1 T.size)) with
      | none =>
        refine ⟨fun o ho => by simp at ho, fun _ o r h => ?_⟩
        exfalso
        cases hE2 : escF 34 (bytesOf (T.extract 1 T.size) ++ [34]) with
        | none => rw [hE2] at h; simp at h
        | some x =>
          obtain ⟨v, m, n⟩ := x
          rw [hE2] at h
          have hf := esc_facts 34 (Or.inr rfl) _ v n m hE2
          rw [List.length_append, hU] at hf
          by_cases hn : n ≤ ((bytesOf (T.extract 1 T.size)).length : Int)
          · rw [esc_back 34 _ _ v n m hE2 hn] at hE; simp at hE
          · simp only [Option.map_some, turnE] at h
            have hzz : (T'.extract (n + 1).toNat T'.size).size = 0 := by
              rw [size_cut]
              simp only [List.length_cons, List.length_nil] at hf
              omega
            unfold uqLoop at h
            rw [if_pos hzz] at h
            simp at h
      | some x =>
        obtain ⟨v, m, n⟩ := x
        have hE2 := esc_app 34 _ [34] _ hE
        rw [hE2]
        have hf := esc_facts 34 (Or.inr rfl) _ v n m hE
        have hl := esc_len 34 _ v n m hE
        rw [hU] at hf
        simp only [Option.map_some, turnE]
        have hchunk : chunkU v (decide (5 ≤ n)) = (if m = true then [v] else encW v) := by
          obtain ⟨g1, g2, g3, g4, g5, g6, g7, g8⟩ := hf
          unfold chunkU
          subst g6
          by_cases n3 : n = 3
          · subst n3
            rw [if_pos (Or.inr (by decide)), if_pos (by decide)]
          · rw [if_neg (show ¬ decide (n = 3) = true by simpa using n3)]
            by_cases lo : v < 128
            · rw [if_pos (Or.inl lo), encW_low v g4 lo]
            · have h5 : 5 ≤ n := by
                rcases hl with h | h | h | h
                · exact absurd (g8 h) lo
                · exact absurd h n3
                · omega
                · omega
              rw [encW_high v (by omega) g5, if_neg]
              intro h
              rcases h with h | h
              · exact lo h
              · simp at h; omega
        rw [hchunk, show (n + 1).toNat = (1 + n).toNat by rw [Int.add_comm]]
        refine ih _ _ _ (hS.drop _ (by omega)) ?_ (by rw [size_cut]; omega)
        have ha := esc_ascii 34 (by omega) _ v n m hE
        refine vt_ascii _ T' hV (by omega) ?_
        rw [bytes_cons T' (by omega), show (1 + n).toNat = n.toNat + 1 by omega, List.take_succ_cons]
        intro c hc
        rcases List.mem_cons.1 hc with rfl | hc
        · omega
        · rw [bytes_extract T' 1 (by omega), hb2, take_app _ _ _ (by omega)] at hc
          exact ha c hc
    · rw [if_pos h92, if_neg (by rw [hrn]; omega)]
      have hp : 0 < (rnS T).2 := by rw [hrn]; exact hst.1
      have hle := rnS_le T
      have hd : Lib.decodeGo T' = rnS T' := dec_rn T' (by omega) hst.1
      have hu : ∃ r m, ucF (decT T') 34 T' = some (r, m, T'.extract (rnS T).2 T'.size) ∧ chunkU r m = bytesOf (T.extract 0 (rnS T).2) := by
        unfold ucF
        rw [if_neg (by omega), if_neg (by omega)]
        by_cases hh : 128 ≤ bt T' 0
        · have hge := (rn_le T.size (bn T 0) (bn T 1) (bn T 2) (bn T 3)).2.2.1 (by have := bn_cast T 0; omega) hp
          have hge2 : 128 ≤ (rnS T).1 := hge
          rw [if_pos hh]
          refine ⟨((rnS T).1 : Nat), true, ?_, ?_⟩
          · unfold decT
            rw [hd, hrn]
          · unfold chunkU
            rw [if_neg (by simp; omega), rnS_enc T (by omega) hp]
        · rw [if_neg hh, if_pos (by omega)]
          have hr := rnS_ascii T (by omega) (by omega)
          rw [hr]
          refine ⟨bt T' 0, false, rfl, ?_⟩
          unfold chunkU
          rw [if_pos (Or.inr rfl)]
          simp only []
          have := take4 T 1 (by omega) (by omega)
          rw [← this, e0]
          rfl
      obtain ⟨r, m, hu1, hu2⟩ := hu
      rw [hu1]
      simp only []
      rw [hu2]
      refine ih _ _ _ (hS.drop _ hle) ?_ (by rw [size_cut]; omega)
      rw [hrn]; exact hst.2
end Go.Proofs.YtamkkdeloknjiaaGreatDoor

namespace Go.Proofs.YtamkkdeloknjiaaGreatDoor
open Go Go.RowKit Go.Proofs.YtamkkdeloknjiaaGreatDoorW.PrintWords Ps
set_option linter.unusedVariables false
set_option linter.unusedSimpArgs false

theorem rn_cont (n b0 b1 b2 b3 : Nat) (h0 : 128 ≤ b0) (hp : 0 < (rnN n b0 b1 b2 b3).2) : (1 < (rnN n b0 b1 b2 b3).2 → 128 ≤ b1) ∧ (2 < (rnN n b0 b1 b2 b3).2 → 128 ≤ b2) ∧ (3 < (rnN n b0 b1 b2 b3).2 → 128 ≤ b3) := by
  revert hp
  unfold rnN
  repeat' split
  all_goals (intro _; simp only []; omega)
theorem rnS_cont (T : ByteArray) (h0 : 128 ≤ bt T 0) (hp : 0 < (rnS T).2) (j : Nat) (hj : j < (rnS T).2) : 128 ≤ bt T j := by
  have hl := (rn_le T.size (bn T 0) (bn T 1) (bn T 2) (bn T 3)).2.1
  have hl2 : (rnS T).2 ≤ 4 := hl
  have hc := rn_cont T.size (bn T 0) (bn T 1) (bn T 2) (bn T 3) (by have := bn_cast T 0; omega) hp
  have c1 : 1 < (rnS T).2 → 128 ≤ bn T 1 := hc.1
  have c2 : 2 < (rnS T).2 → 128 ≤ bn T 2 := hc.2.1
  have c3 : 3 < (rnS T).2 → 128 ≤ bn T 3 := hc.2.2
  have : j = 0 ∨ j = 1 ∨ j = 2 ∨ j = 3 := by omega
  rcases this with rfl | rfl | rfl | rfl
  · exact h0
  · have := bn_cast T 1; have := c1 hj; show 128 ≤ bt T 1; omega
  · have := bn_cast T 2; have := c2 hj; show 128 ≤ bt T 2; omega
  · have := bn_cast T 3; have := c3 hj; show 128 ≤ bt T 3; omega
theorem bt_drop (T : ByteArray) (n j : Nat) (h : n + j < T.size) : bt (T.extract n T.size) j = bt T (n + j : Nat) := bt_cut T n T.size j (by omega) (by omega)
theorem uqLoop_succ (k : Nat) (T : ByteArray) (acc : List Int) : uqLoop (k + 1) T acc = (if T.size = 0 then none
    else if bt T 0 = 34 then some (acc, T.extract 1 T.size)
    else if bt T 0 = 10 then none
    else match ucF (decT T) 34 T with
      | none => none
      | some (r, m, rem) => uqLoop k rem (acc ++ chunkU r m)) := rfl
/-- A plain character at the front. -/
theorem uc_plain (T : ByteArray) (h0 : 0 < T.size) (h34 : bt T 0 ≠ 34) (h92 : bt T 0 ≠ 92) (hp : 0 < (rnS T).2) : ∃ r m, ucF (decT T) 34 T = some (r, m, T.extract (rnS T).2 T.size) ∧ chunkU r m = bytesOf (T.extract 0 (rnS T).2) := by
  have hd : Lib.decodeGo T = rnS T := dec_rn T h0 hp
  unfold ucF
  rw [if_neg (by omega), if_neg (by omega)]
  by_cases hh : 128 ≤ bt T 0
  · have hge := (rn_le T.size (bn T 0) (bn T 1) (bn T 2) (bn T 3)).2.2.1 (by have := bn_cast T 0; omega) hp
    have hge2 : 128 ≤ (rnS T).1 := hge
    rw [if_pos hh]
    refine ⟨((rnS T).1 : Nat), true, ?_, ?_⟩
    · unfold decT
      rw [hd]
    · unfold chunkU
      rw [if_neg (by simp; omega), rnS_enc T (by omega) hp]
  · rw [if_neg hh, if_pos (by omega)]
    have hr := rnS_ascii T (by omega) (by omega)
    rw [hr]
    refine ⟨bt T 0, false, rfl, ?_⟩
    unfold chunkU
    rw [if_pos (Or.inr rfl)]
    simp only []
    have := take4 T 1 (by omega) (by omega)
    rw [← this]
    rfl
theorem loop_quick : ∀ (k i : Nat) (T : ByteArray) (acc : List Int), VT T → T.size < k → i < T.size → bt T i = 34 → (∀ j : Nat, j < i → bt T j ≠ 34 ∧ bt T j ≠ 92 ∧ bt T j ≠ 10) →
    uqLoop k T acc = some (acc ++ (bytesOf T).take i, T.extract (i + 1) T.size) := by
  intro k
  induction k with
  | zero => intro i T acc _ h; omega
  | succ k ih =>
    intro i T acc hV hk hi h34 hno
    rw [uqLoop_succ, if_neg (by omega)]
    by_cases i0 : i = 0
    · subst i0
      have h34' : bt T 0 = 34 := h34
      rw [if_pos h34']
      simp
    have h3 := hno 0 (by omega)
    have h34' : bt T 0 ≠ 34 := h3.1
    have h92' : bt T 0 ≠ 92 := h3.2.1
    have h10' : bt T 0 ≠ 10 := h3.2.2
    rw [if_neg h34', if_neg h10']
    have hst := vt_step T hV (by omega)
    obtain ⟨r, m, hu1, hu2⟩ := uc_plain T (by omega) h34' h92' hst.1
    rw [hu1]
    simp only []
    rw [hu2]
    have hni : (rnS T).2 ≤ i := by
      by_cases hh : 128 ≤ bt T 0
      · by_cases c : (rnS T).2 ≤ i
        · exact c
        · have := rnS_cont T hh hst.1 i (by omega)
          omega
      · rw [rnS_ascii T (by omega) (by omega)]
        show 1 ≤ i
        omega
    have hle := rnS_le T
    have hd := bt_drop T (rnS T).2 (i - (rnS T).2) (by omega)
    rw [ih (i - (rnS T).2) (T.extract (rnS T).2 T.size) _ hst.2 (by rw [size_cut]; omega) (by rw [size_cut]; omega) (by rw [hd, show (rnS T).2 + (i - (rnS T).2) = i by omega]; exact h34) ?_]
    · rw [extract_two, show (rnS T).2 + (i - (rnS T).2 + 1) = i + 1 by omega, bytes_extract T _ hle, bytes_pre T 0 _ hle, List.drop_zero, List.append_assoc]
      congr 3
      have := List.take_append_drop (rnS T).2 ((bytesOf T).take i)
      rw [List.take_take, Nat.min_eq_left hni, List.drop_take] at this
      exact this
    · intro j hj
      rw [bt_drop T _ j (by omega)]
      exact hno _ (by omega)
theorem uc_rem (T : ByteArray) (r : Int) (m : Bool) (rem : ByteArray) (h : ucF (decT T) 34 T = some (r, m, rem)) : ∃ a, 1 ≤ a ∧ a ≤ T.size ∧ rem = T.extract a T.size := by
  unfold ucF at h
  by_cases h0 : T.size = 0
  · rw [if_pos h0] at h; simp at h
  rw [if_neg h0] at h
  by_cases h1 : bt T 0 = 34
  · rw [if_pos h1] at h; simp at h
  rw [if_neg h1] at h
  have hd := decT_facts T (by omega)
  by_cases h2 : 128 ≤ bt T 0
  · rw [if_pos h2] at h
    simp only [Option.some.injEq, Prod.mk.injEq] at h
    exact ⟨_, hd.2.2.1, hd.2.2.2, h.2.2.symm⟩
  rw [if_neg h2] at h
  by_cases h3 : bt T 0 ≠ 92
  · rw [if_pos h3] at h
    simp only [Option.some.injEq, Prod.mk.injEq] at h
    exact ⟨1, by omega, by omega, h.2.2.symm⟩
  rw [if_neg h3, uc_esc 34 (Or.inr rfl)] at h
  cases he : escF 34 ((bytesOf T).drop 1) with
  | none => rw [he] at h; simp at h
  | some y =>
    obtain ⟨v, mm, n⟩ := y
    rw [he] at h
    have hf := esc_facts 34 (Or.inr rfl) _ v n mm he
    simp only [Option.map_some, Option.some.injEq, Prod.mk.injEq, turnE] at h
    have hb := hf.2.1
    rw [List.length_drop, bytes_len] at hb
    exact ⟨_, by omega, by omega, h.2.2.symm⟩
theorem loop_rest : ∀ (k : Nat) (T : ByteArray) (acc o : List Int) (r : ByteArray), uqLoop k T acc = some (o, r) → ∃ a, a < T.size ∧ r = T.extract (a + 1) T.size ∧ bt T a = 34 := by
  intro k
  induction k with
  | zero => intro T acc o r h; simp [uqLoop] at h
  | succ k ih =>
    intro T acc o r h
    rw [uqLoop_succ] at h
    by_cases h0 : T.size = 0
    · rw [if_pos h0] at h; simp at h
    rw [if_neg h0] at h
    by_cases h34 : bt T 0 = 34
    · rw [if_pos h34] at h
      simp only [Option.some.injEq, Prod.mk.injEq] at h
      exact ⟨0, by omega, h.2.symm, h34⟩
    rw [if_neg h34] at h
    by_cases h10 : bt T 0 = 10
    · rw [if_pos h10] at h; simp at h
    rw [if_neg h10] at h
    cases hu : ucF (decT T) 34 T with
    | none => rw [hu] at h; simp at h
    | some x =>
      obtain ⟨c, m, rem⟩ := x
      rw [hu] at h
      obtain ⟨a, ha1, ha2, rfl⟩ := uc_rem T c m rem hu
      obtain ⟨b, hb1, hb2, hb3⟩ := ih _ _ _ _ h
      rw [size_cut] at hb1
      refine ⟨a + b, by omega, ?_, ?_⟩
      · rw [hb2, extract_two]; congr 1
      · rw [bt_drop T a b (by omega)] at hb3; exact hb3

/-- What strconv.unquote gives at a text that does not begin with 39: the text, and what stands behind the closing quote. -/
def unqF (s : ByteArray) : Option (List Int × ByteArray) :=
  if s.size < 2 then none
  else if ixS (s.extract 1 s.size) (bt s 0) = -1 then none
  else if bt s 0 = 96 then some (rawGo (((bytesOf s).drop 1).take (ixS (s.extract 1 s.size) 96).toNat) [], s.extract ((ixS (s.extract 1 s.size) 96).toNat + 2) s.size)
  else if bt s 0 = 34 then uqLoop ((s.extract 1 s.size).size + 1) (s.extract 1 s.size) []
  else none
/-- What spec.TextOf gives. -/
def textF (s : ByteArray) : Option (List Int) :=
  if s.size < 2 then none
  else if bt s 0 ≠ bt s ((s.size : Int) - 1) then none
  else if bt s 0 = 96 then rawRef (bytesOf (s.extract 1 (s.size - 1))) []
  else if bt s 0 = 34 then dqRef ((s.extract 1 (s.size - 1)).size + 1) (s.extract 1 (s.size - 1)) []
  else none
theorem to_all (s : ByteArray) (hs : s.size ≤ 4096) (w : World) :
    Calls Tryz.prog 5 #[.string s] w fun e w' => e = .returned (toVal (textF s)) ∧ Below w.heap.size w w' := by
  unfold textF
  by_cases h2 : s.size < 2
  · rw [if_pos h2]; exact to_short s hs w h2
  rw [if_neg h2]
  by_cases hd : bt s 0 ≠ bt s ((s.size : Int) - 1)
  · rw [if_pos hd]; exact to_diff s hs w (by omega) (by simpa using hd)
  rw [if_neg hd]
  have hd' : (bt s 0 != bt s ((s.size : Int) - 1)) = false := by simpa using hd
  by_cases h96 : bt s 0 = 96
  · rw [if_pos h96]; exact to_raw s hs w (by omega) hd' h96 _ rfl
  rw [if_neg h96]
  by_cases h34 : bt s 0 = 34
  · rw [if_pos h34]; exact to_dq s hs w (by omega) hd' h34 _ rfl
  rw [if_neg h34]
  exact to_other s hs w (by omega) hd' (by simpa using h96) (by simpa using h34)
theorem ix_nat (S : ByteArray) (c : Int) (h : ixS S c ≠ -1) : ∃ i : Nat, ixS S c = (i : Int) ∧ i < S.size := by
  have h1 := ixL_ge (bytesOf S) c
  have h2 := ixL_lt (bytesOf S) c
  rw [bytes_len] at h2
  unfold ixS at h ⊢
  exact ⟨(ixL (bytesOf S) c).toNat, by omega, by omega⟩
theorem ix_bt (S : ByteArray) (c : Int) (i : Nat) (h : ixS S c = (i : Int)) (hi : i < S.size) : bt S i = c ∧ ∀ j : Nat, j < i → bt S j ≠ c := by
  obtain ⟨h1, h2⟩ := ixL_at (l := bytesOf S) (i := i) h
  have hl : i < (bytesOf S).length := by rw [bytes_len]; exact hi
  refine ⟨?_, fun j hj e => h1 ?_⟩
  · rw [List.drop_eq_getElem_cons hl] at h2
    rw [← bytes_at S i hl]
    exact (List.cons.inj h2).1
  · have hl2 : j < (bytesOf S).length := by omega
    rw [← e, ← bytes_at S j hl2]
    exact List.mem_take_iff_getElem.2 ⟨j, by omega, rfl⟩
theorem ix_no (S : ByteArray) (c : Int) (h : ixS S c = -1) (j : Nat) (hj : j < S.size) : bt S j ≠ c := by
  have h1 := ixL_none (l := bytesOf S) h
  intro e
  have hl : j < (bytesOf S).length := by rw [bytes_len]; exact hj
  rw [← e, ← bytes_at S j hl] at h1
  exact h1 (List.getElem_mem hl)

theorem unquote_all (s : ByteArray) (hs : s.size ≤ 4096) (hV : VT s) (h39 : bt s 0 ≠ 39) (t : TypeId) (v : Value) (w : World) (hE : ErrAt w t v) (hTB : ∀ W, Below w.heap.size w W → Lib.Utf8Tabs 6 7 W) :
    Calls Tryz.prog 56 #[.string s, .bool true] w fun e w' => e = .returned (unqRes s t v (unqF s)) ∧ Below w.heap.size w w' := by
  unfold unqF
  by_cases h2 : s.size < 2
  · rw [if_pos h2]; exact unq_short s hs t v w hE h2
  rw [if_neg h2]
  have hz := size_cut s 1
  by_cases hix : ixS (s.extract 1 s.size) (bt s 0) = -1
  · rw [if_pos hix]; exact unq_open s hs t v w hE (by omega) _ rfl hix
  rw [if_neg hix]
  obtain ⟨i, hi, hi2⟩ := ix_nat _ _ hix
  have hb := ix_bt _ _ i hi hi2
  have hat := ixL_at (l := bytesOf (s.extract 1 s.size)) (i := i) hi
  have hSb : bytesOf (s.extract 1 s.size) = (bytesOf s).drop 1 := bytes_extract s 1 (by omega)
  by_cases h96 : bt s 0 = 96
  · rw [if_pos h96]
    rw [h96] at hi hb hat
    rw [hi, Int.toNat_natCast]
    by_cases h13 : ixS (s.extract 0 (i + 2)) 13 = -1
    · have hr := unq_raw s hs t v w hE (by omega) _ rfl i (by omega) h96 hi _ rfl h13
      have : rawGo (((bytesOf s).drop 1).take i) [] = ((bytesOf s).drop 1).take i := by
        rw [rawGo_id]; rfl
        have h3 := ixL_none (l := bytesOf (s.extract 0 (i + 2))) h13
        rw [bytes_pre s 0 (i + 2) (by omega), List.drop_zero] at h3
        intro k
        apply h3
        have h4 : ((bytesOf s).drop 1).take i = ((bytesOf s).take (i + 1)).drop 1 := by rw [List.drop_take]; rfl
        rw [h4] at k
        have k2 := List.mem_of_mem_drop k
        have h5 : (bytesOf s).take (i + 1) = ((bytesOf s).take (i + 2)).take (i + 1) := by rw [List.take_take]; congr 1; omega
        rw [h5] at k2
        exact List.mem_of_mem_take k2
      rw [this]
      have hst : strOfNums (((bytesOf s).drop 1).take i) = s.extract 1 (i + 1) := by
        rw [← strOf_bytes (s.extract 1 (i + 1)), bytes_pre s 1 (i + 1) (by omega), List.drop_take]
        rfl
      show Calls _ _ _ _ fun e w' => e = .returned (unqOk (strOfNums (((bytesOf s).drop 1).take i)) (s.extract (i + 2) s.size)) ∧ _
      rw [hst]
      exact hr
    · refine unq_rawcr s hs t v w hE (by omega) _ rfl i ?_ (by omega) h96 hi _ rfl (by simpa using h13)
      by_cases i0 : i = 0
      · exfalso
        apply h13
        subst i0
        have hb0 : bt (s.extract 1 s.size) 0 = 96 := hb.1
        unfold ixS
        rw [bytes_pre s 0 (0 + 2) (by omega), List.drop_zero, bytes_cons s (by omega), bytes_cons (s.extract 1 s.size) (by omega), h96, hb0]
        rfl
      · omega
  rw [if_neg h96]
  by_cases h34 : bt s 0 = 34
  · rw [if_pos h34]
    rw [h34] at hi hb hat
    have hVS : VT (s.extract 1 s.size) := by
      have := (vt_step s hV (by omega)).2
      rw [rnS_ascii s (by omega) (by omega)] at this
      exact this
    by_cases h92 : ixS (s.extract 0 (i + 2)) 92 = -1
    · have h92' : (ixS (s.extract 0 (i + 2)) 92 != -1) = false := by simpa using h92
      by_cases h10 : ixS (s.extract 0 (i + 2)) 10 = -1
      · have h10' : (ixS (s.extract 0 (i + 2)) 10 != -1) = false := by simpa using h10
        have hq : uqLoop ((s.extract 1 s.size).size + 1) (s.extract 1 s.size) [] = some (((bytesOf s).drop 1).take i, s.extract (i + 2) s.size) := by
          rw [loop_quick _ i _ [] hVS (by omega) hi2 hb.1 ?_, hSb, extract_two, show 1 + (i + 1) = i + 2 by omega]
          · rfl
          · intro j hj
            refine ⟨hb.2 j hj, ?_, ?_⟩
            · have := ix_no _ _ h92 (j + 1) (by rw [ByteArray.size_extract]; omega)
              rw [bt_cut s 0 (i + 2) (j + 1) (by omega) (by omega)] at this
              rw [bt_drop s 1 j (by omega)]
              rw [show 1 + j = 0 + (j + 1) by omega]
              exact this
            · have := ix_no _ _ h10 (j + 1) (by rw [ByteArray.size_extract]; omega)
              rw [bt_cut s 0 (i + 2) (j + 1) (by omega) (by omega)] at this
              rw [bt_drop s 1 j (by omega)]
              rw [show 1 + j = 0 + (j + 1) by omega]
              exact this
        have hvs : ∀ W, Below w.heap.size w W → Calls Tryz.prog 100 #[.string (s.extract 1 (i + 1))] W fun e w' => e = .returned (.bool (Lib.validD (s.extract 1 (i + 1)).data.toList)) ∧ Below W.heap.size W w' := by
          intro W hW
          exact Tryz.utf8_ValidString _ W (by rw [ByteArray.size_extract]; omega) (hTB W hW)
        cases hB : Lib.validD (s.extract 1 (i + 1)).data.toList with
        | true =>
          rw [hB] at hvs
          have hr := unq_quick s hs t v w hE (by omega) _ rfl i (by omega) h34 hi _ rfl hTB h92' h10' _ rfl hvs
          rw [hq]
          have hst : strOfNums (((bytesOf s).drop 1).take i) = s.extract 1 (i + 1) := by
            rw [← strOf_bytes (s.extract 1 (i + 1)), bytes_pre s 1 (i + 1) (by omega), List.drop_take]
            rfl
          show Calls _ _ _ _ fun e w' => e = .returned (unqOk (strOfNums (((bytesOf s).drop 1).take i)) (s.extract (i + 2) s.size)) ∧ _
          rw [hst]
          exact hr
        | false =>
          rw [hB] at hvs
          exact unq_loopc s hs t v w hE (by omega) _ rfl i (by omega) h34 hi _ rfl hTB h92' h10' _ rfl hvs
      · exact unq_loopb s hs t v w hE (by omega) _ rfl i (by omega) h34 hi _ rfl hTB h92' (by simpa using h10)
    · exact unq_loopa s hs t v w hE (by omega) _ rfl i (by omega) h34 hi _ rfl hTB (by simpa using h92)
  rw [if_neg h34]
  exact unq_other s hs t v w hE (by omega) _ rfl i (by omega) hi (by simpa using h96) (by simpa using h34) (by simpa using h39)

theorem text_law (s : ByteArray) (hV : VT s) (h39 : bt s 0 ≠ 39) :
    (∀ o, textF s = some o → ∃ r, unqF s = some (o, r) ∧ r.size = 0) ∧ (textF s = none → ∀ o r, unqF s = some (o, r) → 0 < r.size) := by
  unfold textF unqF
  by_cases h2 : s.size < 2
  · rw [if_pos h2, if_pos h2]
    exact ⟨fun o h => by simp at h, fun _ o r h => by simp at h⟩
  rw [if_neg h2, if_neg h2]
  have hz := size_cut s 1
  have hlast : bt (s.extract 1 s.size) (s.size - 2 : Nat) = bt s ((s.size : Int) - 1) := by
    rw [bt_drop s 1 (s.size - 2) (by omega)]
    congr 1
    omega
  by_cases hix : ixS (s.extract 1 s.size) (bt s 0) = -1
  · rw [if_pos hix]
    have := ix_no _ _ hix (s.size - 2) (by omega)
    rw [hlast] at this
    rw [if_pos (fun e => this e.symm)]
    exact ⟨fun o h => by simp at h, fun _ o r h => by simp at h⟩
  rw [if_neg hix]
  by_cases h96 : bt s 0 = 96
  · rw [if_pos h96, if_pos h96]
    rw [h96] at hix
    obtain ⟨i, hi, hi2⟩ := ix_nat _ _ hix
    have hb := ix_bt _ _ i hi hi2
    rw [hi, Int.toNat_natCast]
    have hM : bytesOf (s.extract 1 (s.size - 1)) = ((bytesOf s).drop 1).take (s.size - 2) := by
      rw [bytes_pre s 1 (s.size - 1) (by omega), List.drop_take]; rfl
    have hSb : bytesOf (s.extract 1 s.size) = (bytesOf s).drop 1 := bytes_extract s 1 (by omega)
    have hat := ixL_at (l := bytesOf (s.extract 1 s.size)) (i := i) hi
    rw [hSb] at hat
    by_cases he : i = s.size - 2
    · have : bt s ((s.size : Int) - 1) = 96 := by rw [← hlast, ← he]; exact hb.1
      rw [if_neg (by omega), hM, ← he, rawRef_no _ _ hat.1]
      refine ⟨fun o h => ⟨s.extract (i + 2) s.size, ?_, ?_⟩, fun h => by simp at h⟩
      · simp only [Option.some.injEq] at h; rw [h]
      · rw [size_cut]; omega
    · have hn : (if bt s 0 ≠ bt s ((s.size : Int) - 1) then none else rawRef (bytesOf (s.extract 1 (s.size - 1))) []) = none := by
        by_cases hd : bt s 0 ≠ bt s ((s.size : Int) - 1)
        · rw [if_pos hd]
        · rw [if_neg hd, hM]
          apply rawRef_yes
          have hl : i < ((bytesOf s).drop 1).length := by rw [List.length_drop, bytes_len]; omega
          have h3 := hat.2
          rw [List.drop_eq_getElem_cons hl] at h3
          rw [← (List.cons.inj h3).1]
          exact List.mem_take_iff_getElem.2 ⟨i, by omega, rfl⟩
      rw [hn]
      refine ⟨fun o h => by simp at h, fun _ o r h => ?_⟩
      simp only [Option.some.injEq, Prod.mk.injEq] at h
      rw [← h.2, size_cut]
      omega
  rw [if_neg h96, if_neg h96]
  by_cases h34 : bt s 0 = 34
  · rw [if_pos h34, if_pos h34]
    have hVS : VT (s.extract 1 s.size) := by
      have := (vt_step s hV (by omega)).2
      rw [rnS_ascii s (by omega) (by omega)] at this
      exact this
    by_cases hd : bt s 0 ≠ bt s ((s.size : Int) - 1)
    · rw [if_pos hd]
      refine ⟨fun o h => by simp at h, fun _ o r h => ?_⟩
      obtain ⟨a, ha, rfl, hb⟩ := loop_rest _ _ _ _ _ h
      rw [size_cut, hz]
      by_cases e : a = s.size - 2
      · rw [e, hlast] at hb; omega
      · omega
    · rw [if_neg hd]
      have hsz : (s.extract 1 (s.size - 1)).size = s.size - 2 := by rw [ByteArray.size_extract]; omega
      have hSh : Shut (s.extract 1 (s.size - 1)) (s.extract 1 s.size) := by
        refine ⟨?_⟩
        apply List.ext_getElem
        · rw [List.length_append, bytes_len, bytes_len]; simp; omega
        · intro j h1 h3
          rw [bytes_len] at h1
          rw [bytes_at]
          by_cases hj : j < s.size - 2
          · rw [List.getElem_append_left (by rw [bytes_len]; omega), bytes_at, bt_drop s 1 j (by omega), bt_cut s 1 (s.size - 1) j (by omega) (by omega)]
          · have hje : j = s.size - 2 := by omega
            have hbb : bt (s.extract 1 s.size) j = 34 := by rw [hje, hlast]; omega
            rw [List.getElem_append_right (by rw [bytes_len]; omega), hbb]
            simp
      have := sim ((s.extract 1 (s.size - 1)).size + 1) _ _ [] hSh hVS (by omega)
      rw [show (s.extract 1 (s.size - 1)).size + 1 + 1 = (s.extract 1 s.size).size + 1 by omega] at this
      exact this
  · rw [if_neg h34, if_neg h34]
    refine ⟨fun o h => ?_, fun _ o r h => by simp at h⟩
    split at h <;> simp at h
end Go.Proofs.YtamkkdeloknjiaaGreatDoor

namespace Go.Proofs.YtamkkdeloknjiaaGreatDoor
open Go Go.RowKit Go.Proofs.YtamkkdeloknjiaaGreatDoorW.PrintWords Ps
set_option linter.unusedVariables false
set_option linter.unusedSimpArgs false

theorem seven_mfl (w : World) : Calls Tryz.prog 12 #[.string seven, .int .i64 5, .int .u64 0] w fun e w' => e = .returned (.iface 63 (.int .i64 7)) ∧ Below w.heap.size w w' :=
  mfl_int_ok seven 7 w (ppint_ok seven 7 w (pint_ok seven (by decide) (by rfl) (by rfl) 7 (by decide) (by decide) w (seven_pu w)))

set_option maxRecDepth 100000 in
set_option maxHeartbeats 2000000 in
theorem alive_any (w : World) : Calls Tryz.prog 7 #[] w fun e w' => e = .returned (.bool true) ∧ Below w.heap.size w w' := by
  have HL := Aside0.mk (literal_int0 seven 7 (by decide) (by decide) w (fun W _ => seven_mfl W))
  go_enter Tryz.func7, Tryz.ntmps7
  go_wp2_with fail
  refine HL.out.mono ?_
  rintro e w1 ⟨A, c, rfl, hu, hb1⟩
  have HB1 := Aside0.mk hb1
  have HU := Aside0.mk hu
  clear hb1 hu HL
  unfold toldInt
  go_wp2_with fail
  refine (of64_any 7 (by decide) (by decide) w1).mono ?_
  rintro e w2 ⟨A1, c1, A2, c2, rfl, hc1, hc2, r1, r2, hb2⟩
  have HB2 := Aside0.mk hb2
  have h3 := isInt_lit 7 (by decide) (by decide) A c w2 (Kd.V_reads' (HU.out.below hb2)).2.2 (Kd.V_reads' (HU.out.below hb2)).2.1 A1 c1 A2 c2 hc1 hc2 r1 r2
  have H3 := Aside0.mk h3
  clear h3 hb2 r1 r2 hc1 hc2 HU
  unfold toldInt at H3
  go_wp2_with fail
  refine H3.out.mono ?_
  rintro e w3 ⟨rfl, hb3⟩
  have HB3 := Aside0.mk ((HB1.out.trans (HB2.out.mono HB1.out.size)).trans (hb3.mono (Nat.le_trans HB1.out.size HB2.out.size)))
  clear hb3
  go_wp2
  go_ret
  exact ⟨rfl, HB3.out⟩
end Go.Proofs.YtamkkdeloknjiaaGreatDoor

namespace Go.Proofs.YtamkkdeloknjiaaGreatDoor
open Go Go.RowKit Go.Proofs.YtamkkdeloknjiaaGreatDoorW.PrintWords Ps
set_option linter.unusedVariables false
set_option linter.unusedSimpArgs false

theorem err_below {w W : World} {t : TypeId} {v : Value} (h : ErrAt w t v) (hb : Below w.heap.size w W) : ErrAt W t v := by
  unfold ErrAt at *
  rw [← h]
  exact hb.cell (p := ⟨0, 0, none⟩) (World.block_lt_of_cell? w _ h)
theorem tabs_below {w W : World} {a b : Nat} (h : Lib.Utf8Tabs a b w) (hb : Below w.heap.size w W) : Lib.Utf8Tabs a b W := by
  refine ⟨fun c hc => ?_, fun i hi => ⟨?_, ?_⟩⟩
  · have h1 := h.1 c hc; rw [← h1]; exact hb.cell (p := ⟨a, c, none⟩) (World.block_lt_of_cell? w _ h1)
  · have h1 := (h.2 i hi).1; rw [← h1]; exact hb.cell (p := ⟨b, 2 * i, none⟩) (World.block_lt_of_cell? w _ h1)
  · have h1 := (h.2 i hi).2; rw [← h1]; exact hb.cell (p := ⟨b, 2 * i + 1, none⟩) (World.block_lt_of_cell? w _ h1)
def CallT (f : FuncId) (args : Array Value) (w : World) (v : Value) : Prop := ∀ W, Below w.heap.size w W → Calls Tryz.prog f args W fun e w' => e = .returned v ∧ Below W.heap.size W w'

set_option maxRecDepth 100000 in
set_option maxHeartbeats 1000000 in
theorem ft_long (s : ByteArray) (h : 100 < s.size) (hm : s.size ≤ maxLen) (w : World) :
    Calls Tryz.prog 3 #[.string s] w fun e w' => e = .returned (.bool true) ∧ Below w.heap.size w w' := by
  unfold maxLen at hm
  have h6 : 100 < (s.size : Int) := by omega
  by_cases hz : 2147483647 < (s.size : Int)
  · go_enter Tryz.func3, Tryz.ntmps3
    go_wp2
    go_ret
    exact ⟨rfl, Below.refl _ _⟩
  · have hz2 : (s.size : Int) ≤ 2147483647 := by omega
    clear hz
    go_enter Tryz.func3, Tryz.ntmps3
    go_wp2
    go_ret
    exact ⟨rfl, Below.refl _ _⟩

set_option maxRecDepth 100000 in
set_option maxHeartbeats 1000000 in
theorem ft_invalid (s : ByteArray) (h : s.size ≤ 100) (w : World) (hV : CallT 4 #[.string s] w (.bool false)) :
    Calls Tryz.prog 3 #[.string s] w fun e w' => e = .returned (.bool true) ∧ Below w.heap.size w w' := by
  have h6 : (s.size : Int) ≤ 100 := by omega
  have HV := Aside0.mk hV
  clear hV
  go_enter Tryz.func3, Tryz.ntmps3
  go_wp2_with fail
  refine (HV.out _ (Below.refl _ _)).mono ?_
  rintro e w1 ⟨rfl, hbel⟩
  have HB := Aside0.mk hbel
  clear hbel
  go_wp2
  go_ret
  exact ⟨rfl, HB.out⟩

set_option maxRecDepth 100000 in
set_option maxHeartbeats 1000000 in
theorem ft_char (s : ByteArray) (h : s.size ≤ 100) (h0 : 0 < s.size) (w : World) (hV : CallT 4 #[.string s] w (.bool true)) (b0 : (bt s 0 == 39) = true) :
    Calls Tryz.prog 3 #[.string s] w fun e w' => e = .returned (.bool true) ∧ Below w.heap.size w w' := by
  have h6 : (s.size : Int) ≤ 100 := by omega
  have h7 : 0 < (s.size : Int) := by omega
  have HV := Aside0.mk hV
  have hx : ∀ h : 0 < s.size, ((s[0]'h).toNat : Int) = bt s 0 := bt_at s 0
  have q0 := eq_true (show 0 < s.size by omega)
  clear hV
  go_enter Tryz.func3, Tryz.ntmps3
  go_wp2_with fail
  refine (HV.out _ (Below.refl _ _)).mono ?_
  rintro e w1 ⟨rfl, hbel⟩
  have HB := Aside0.mk hbel
  clear hbel
  go_wp2
  go_ret
  exact ⟨rfl, HB.out⟩

set_option maxRecDepth 100000 in
set_option maxHeartbeats 1000000 in
theorem ft_no0 (s : ByteArray) (h0 : s.size = 0) (w : World) (hV : CallT 4 #[.string s] w (.bool true)) (hC : CallT 5 #[.string s] w (.tuple #[.string ⟨#[]⟩, .bool false])) (hL : CallT 6 #[.string s, .int .i64 4] w toldUnknown) :
    Calls Tryz.prog 3 #[.string s] w fun e w' => e = .returned (.bool true) ∧ Below w.heap.size w w' := by
  have h7 : (s.size : Int) ≤ 0 := by omega
  have HV := Aside0.mk hV
  have HC := Aside0.mk hC
  unfold toldUnknown at hL
  have HL := Aside0.mk hL
  clear hV hC hL h0
  go_enter Tryz.func3, Tryz.ntmps3
  go_wp2_with fail
  refine (HV.out _ (Below.refl _ _)).mono ?_
  rintro e w1 ⟨rfl, hbel⟩
  have HB := Aside0.mk hbel
  clear hbel
  go_wp2_with fail
  refine (HC.out _ HB.out).mono ?_
  rintro e w2 ⟨rfl, hbel⟩
  have HB2 := Aside0.mk (HB.out.trans (hbel.mono HB.out.size))
  clear hbel HB
  go_wp2_with fail
  refine (HL.out _ HB2.out).mono ?_
  rintro e w3 ⟨rfl, hbel⟩
  have HB3 := Aside0.mk (HB2.out.trans (hbel.mono HB2.out.size))
  clear hbel HB2
  go_wp2_with fail
  refine (alive_any _).mono ?_
  rintro e w4 ⟨rfl, hbel⟩
  have HB4 := Aside0.mk (show Below w.heap.size w w4 from (below_alloc HB3.out _).trans (hbel.mono (below_alloc HB3.out _).size))
  clear hbel
  go_wp2
  go_ret
  exact ⟨rfl, HB4.out⟩

set_option maxRecDepth 100000 in
set_option maxHeartbeats 1000000 in
theorem ft_no (s : ByteArray) (h0 : 0 < s.size) (h : s.size ≤ 100) (b0 : (bt s 0 == 39) = false) (w : World) (hV : CallT 4 #[.string s] w (.bool true)) (hC : CallT 5 #[.string s] w (.tuple #[.string ⟨#[]⟩, .bool false])) (hL : CallT 6 #[.string s, .int .i64 4] w toldUnknown) :
    Calls Tryz.prog 3 #[.string s] w fun e w' => e = .returned (.bool true) ∧ Below w.heap.size w w' := by
  have h6 : (s.size : Int) ≤ 100 := by omega
  have h7 : 0 < (s.size : Int) := by omega
  have hx : ∀ h : 0 < s.size, ((s[0]'h).toNat : Int) = bt s 0 := bt_at s 0
  have q0 := eq_true (show 0 < s.size by omega)
  have HV := Aside0.mk hV
  have HC := Aside0.mk hC
  unfold toldUnknown at hL
  have HL := Aside0.mk hL
  clear hV hC hL
  go_enter Tryz.func3, Tryz.ntmps3
  go_wp2_with fail
  refine (HV.out _ (Below.refl _ _)).mono ?_
  rintro e w1 ⟨rfl, hbel⟩
  have HB := Aside0.mk hbel
  clear hbel
  go_wp2_with fail
  refine (HC.out _ HB.out).mono ?_
  rintro e w2 ⟨rfl, hbel⟩
  have HB2 := Aside0.mk (HB.out.trans (hbel.mono HB.out.size))
  clear hbel HB
  go_wp2_with fail
  refine (HL.out _ HB2.out).mono ?_
  rintro e w3 ⟨rfl, hbel⟩
  have HB3 := Aside0.mk (HB2.out.trans (hbel.mono HB2.out.size))
  clear hbel HB2
  go_wp2_with fail
  refine (alive_any _).mono ?_
  rintro e w4 ⟨rfl, hbel⟩
  have HB4 := Aside0.mk (show Below w.heap.size w w4 from (below_alloc HB3.out _).trans (hbel.mono (below_alloc HB3.out _).size))
  clear hbel
  go_wp2
  go_ret
  exact ⟨rfl, HB4.out⟩

set_option maxRecDepth 100000 in
set_option maxHeartbeats 1000000 in
theorem ft_yes (s : ByteArray) (h0 : 0 < s.size) (h : s.size ≤ 100) (b0 : (bt s 0 == 39) = false) (out : ByteArray) (w : World) (hV : CallT 4 #[.string s] w (.bool true)) (hC : CallT 5 #[.string s] w (.tuple #[.string out, .bool true])) (hL : CallT 6 #[.string s, .int .i64 4] w (strJ out)) :
    Calls Tryz.prog 3 #[.string s] w fun e w' => e = .returned (.bool true) ∧ Below w.heap.size w w' := by
  have h6 : (s.size : Int) ≤ 100 := by omega
  have h7 : 0 < (s.size : Int) := by omega
  have hx : ∀ h : 0 < s.size, ((s[0]'h).toNat : Int) = bt s 0 := bt_at s 0
  have q0 := eq_true (show 0 < s.size by omega)
  have HV := Aside0.mk hV
  have HC := Aside0.mk hC
  unfold strJ at hL
  have HL := Aside0.mk hL
  clear hV hC hL
  go_enter Tryz.func3, Tryz.ntmps3
  go_wp2_with fail
  refine (HV.out _ (Below.refl _ _)).mono ?_
  rintro e w1 ⟨rfl, hbel⟩
  have HB := Aside0.mk hbel
  clear hbel
  go_wp2_with fail
  refine (HC.out _ HB.out).mono ?_
  rintro e w2 ⟨rfl, hbel⟩
  have HB2 := Aside0.mk (HB.out.trans (hbel.mono HB.out.size))
  clear hbel HB
  go_wp2_with fail
  refine (HL.out _ HB2.out).mono ?_
  rintro e w3 ⟨rfl, hbel⟩
  have HB3 := Aside0.mk (HB2.out.trans (hbel.mono HB2.out.size))
  clear hbel HB2
  go_wp2
  go_ret
  exact ⟨rfl, below_alloc HB3.out _⟩

theorem fnText_any (s : ByteArray) (hm : s.size ≤ maxLen) (t : TypeId) (v : Value) (w : World) (hE : ErrAt w t v) (hT : Lib.Utf8Tabs 6 7 w) :
    Calls Tryz.prog 3 #[.string s] w fun e w' => e = .returned (.bool true) ∧ Below w.heap.size w w' := by
  by_cases hl : 100 < s.size
  · exact ft_long s hl hm w
  have hs : s.size ≤ 4096 := by omega
  have hval : ∃ r : Bool, CallT 4 #[.string s] w (.bool r) ∧ (r = true → VT s) := by
    obtain ⟨r, hr⟩ := valid_total s.size s (Nat.le_refl _)
    exact ⟨r, fun W _ => (spec_Valid.calls _ s r W hr).mono fun e w' h => ⟨h.1, Drawn0.below h.2⟩, fun h => by subst h; exact ⟨_, hr⟩⟩
  obtain ⟨r, hV, hvt⟩ := hval
  cases r with
  | false => exact ft_invalid s (by omega) w hV
  | true =>
    have hvt := hvt rfl
    have hb39 : s.size = 0 → bt s 0 ≠ 39 := fun h => by rw [bt_past s 0 (by rw [h]; decide)]; decide
    by_cases h39 : bt s 0 = 39
    · exact ft_char s (by omega) (by have := fun h => hb39 h h39; omega) w hV (by rw [h39]; rfl)
    have hlaw := text_law s hvt h39
    have hu : ∀ W, Below w.heap.size w W → Calls Tryz.prog 56 #[.string s, .bool true] W fun e w' => e = .returned (unqRes s t v (unqF s)) ∧ Below W.heap.size W w' := fun W hb =>
      unquote_all s hs hvt h39 t v W (err_below hE hb) (fun W2 hb2 => tabs_below hT (hb.trans (hb2.mono hb.size)))
    cases hF : textF s with
    | none =>
      have hC : CallT 5 #[.string s] w (.tuple #[.string ⟨#[]⟩, .bool false]) := fun W _ => by
        have := to_all s hs W
        rw [hF] at this
        exact this
      have hQ : ∀ W, Below w.heap.size w W → Calls Tryz.prog 28 #[.string s] W fun e w' => e = .returned (uqE t v) ∧ Below W.heap.size W w' := by
        intro W hb
        have hw := hu W hb
        cases hR : unqF s with
        | none =>
          rw [hR] at hw
          exact unquote_err s t v W (err_below hE hb) hw
        | some x =>
          obtain ⟨o, r⟩ := x
          rw [hR] at hw
          exact unquote_rem s _ r (hlaw.2 hF o r hR) t v W (err_below hE hb) hw
      have hL : CallT 6 #[.string s, .int .i64 4] w toldUnknown := fun W hb =>
        literal_unknown4 s W fun W2 hb2 => mfl_str_no s t v W2 (hQ W2 (hb.trans (hb2.mono hb.size)))
      by_cases h0 : s.size = 0
      · exact ft_no0 s h0 w hV hC hL
      · exact ft_no s (by omega) (by omega) (by rw [beq_eq_false_iff_ne]; exact h39) w hV hC hL
    | some o =>
      obtain ⟨r, hR, hr0⟩ := hlaw.1 o hF
      have hC : CallT 5 #[.string s] w (.tuple #[.string (strOfNums o), .bool true]) := fun W _ => by
        have := to_all s hs W
        rw [hF] at this
        exact this
      have h0 : 0 < s.size := by
        apply Decidable.byContradiction
        intro h
        unfold textF at hF
        rw [if_pos (by omega)] at hF
        simp at hF
      have hL : CallT 6 #[.string s, .int .i64 4] w (strJ (strOfNums o)) := fun W hb =>
        literal_str s (strOfNums o) W fun W2 hb2 => mfl_str_ok s _ W2 (unquote_ok s _ r hr0 W2 (by
          have := hu W2 (hb.trans (hb2.mono hb.size))
          rw [hR] at this
          exact this))
      exact ft_yes s h0 (by omega) (by rw [beq_eq_false_iff_ne]; exact h39) _ w hV hC hL
end Go.Proofs.YtamkkdeloknjiaaGreatDoor

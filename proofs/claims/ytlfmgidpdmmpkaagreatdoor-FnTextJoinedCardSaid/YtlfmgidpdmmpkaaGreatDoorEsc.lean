/- Escapes in plain numbers: what the reference reads behind a backslash, and what UnquoteChar reads; they are the same. -/
import Derived.Laws.BitsLemmas
import Derived.RowKit
namespace Go.Proofs.YtlfmgidpdmmpkaaGreatDoor
open Go Go.RowKit
set_option linter.unusedVariables false
set_option linter.unusedSimpArgs false
def uhx (c : Int) : Option Int := if 48 ≤ c ∧ c ≤ 57 then some (c - 48) else if 97 ≤ c ∧ c ≤ 102 then some (c - 87) else if 65 ≤ c ∧ c ≤ 70 then some (c - 55) else none
def vR (v : Int) : Bool := decide ((0 ≤ v ∧ v < 55296) ∨ (57343 < v ∧ v ≤ 1114111))
def hexStep (v x : Int) : Int := Go.bits .or .i32 (wrap32 (v * 16)) x
def hexGo : Int → List Int → Option Int
  | v, [] => some v
  | v, c :: t => match uhx c with | none => none | some x => hexGo (hexStep v x) t
def octStep (v x : Int) : Int := Go.bits .or .i32 (wrap32 (v * 8)) x
def octGo : Int → List Int → Option Int
  | v, [] => some v
  | v, c :: t => if c < 48 ∨ 55 < c then none else octGo (octStep v (c - 48)) t

/-- The number of a figure, or 99, as the reference reckons it. -/
def dgt (c : Int) : Int := if 48 ≤ c ∧ c ≤ 57 then c - 48 else if 97 ≤ c ∧ c ≤ 122 then c - 97 + 10 else if 65 ≤ c ∧ c ≤ 90 then c - 65 + 10 else 99
/-- Figures of a base: the reference's loop in escape. -/
def escGo (b : Int) : Int → List Int → Option Int
  | v, [] => some v
  | v, c :: t => if b ≤ dgt c then none else escGo b (v * b + dgt c) t
theorem escGo_cons (b v c : Int) (t : List Int) : escGo b v (c :: t) = if b ≤ dgt c then none else escGo b (v * b + dgt c) t := rfl
theorem dgt_range (c : Int) : 0 ≤ dgt c ∧ dgt c ≤ 99 := by
  unfold dgt; split
  · omega
  · split
    · omega
    · split <;> omega
theorem uhx_dg (c : Int) : uhx c = if 16 ≤ dgt c then none else some (dgt c) := by
  unfold uhx dgt
  by_cases a : 48 ≤ c ∧ c ≤ 57
  · rw [if_pos a, if_pos a, if_neg (by omega)]
  · rw [if_neg a, if_neg a]
    by_cases b : 97 ≤ c ∧ c ≤ 102
    · rw [if_pos b, if_pos (show 97 ≤ c ∧ c ≤ 122 by omega), if_neg (by omega)]; congr 1; omega
    · rw [if_neg b]
      by_cases b2 : 97 ≤ c ∧ c ≤ 122
      · rw [if_neg (by omega), if_pos b2, if_pos (by omega)]
      · rw [if_neg b2]
        by_cases d : 65 ≤ c ∧ c ≤ 70
        · rw [if_pos d, if_pos (show 65 ≤ c ∧ c ≤ 90 by omega), if_neg (by omega)]; congr 1; omega
        · rw [if_neg d]
          by_cases d2 : 65 ≤ c ∧ c ≤ 90
          · rw [if_pos d2, if_pos (by omega)]
          · rw [if_neg d2, if_pos (by omega)]
theorem oct_dg (c : Int) : (c < 48 ∨ 55 < c) ↔ 8 ≤ dgt c := by
  unfold dgt
  by_cases a : 48 ≤ c ∧ c ≤ 57
  · rw [if_pos a]; omega
  · rw [if_neg a]
    by_cases b : 97 ≤ c ∧ c ≤ 122
    · rw [if_pos b]; omega
    · rw [if_neg b]
      by_cases d : 65 ≤ c ∧ c ≤ 90
      · rw [if_pos d]; omega
      · rw [if_neg d]; omega
theorem oct_dg' (c : Int) (h : ¬ 8 ≤ dgt c) : dgt c = c - 48 := by
  have := oct_dg c
  unfold dgt at *
  rw [if_pos (by omega)]

/-- An or of a number whose low bits are 0 and one below them, in 32 bits. -/
theorem i32_or_low (i : Nat) (hi : i ≤ 4) (a x : Int) (ha : a % 2 ^ i = 0) (h0 : 0 ≤ x) (h1 : x < 2 ^ i) : Go.bits .or .i32 a x = wrap32 (a + x) := by
  obtain ⟨b, rfl⟩ := Int.eq_ofNat_of_zero_le h0
  have h2 : (2 : Nat) ^ i ≤ 16 := Nat.le_trans (Nat.pow_le_pow_right (by decide) hi) (by decide)
  have hb : b < 2 ^ i := by exact_mod_cast h1
  have ex : (BitVec.ofInt 32 (b : Int)).toNat = b := by
    rw [BitVec.ofInt_natCast, BitVec.toNat_ofNat]; exact Nat.mod_eq_of_lt (by omega)
  have ea : (((BitVec.ofInt 32 a).toNat : Nat) : Int) = a % 4294967296 := by
    rw [BitVec.toNat_ofInt]; simp; omega
  obtain ⟨A, hA⟩ : ∃ A, (BitVec.ofInt 32 a).toNat = A := ⟨_, rfl⟩
  rw [hA] at ea
  have hd : A % 2 ^ i = 0 := by
    have hp : ((2 : Int) ^ i) ∣ 4294967296 := by
      have : (4294967296 : Int) = 2 ^ i * 2 ^ (32 - i) := by rw [← Int.pow_add, show i + (32 - i) = 32 by omega]; decide
      exact ⟨_, this⟩
    have h3 : ((A : Int)) % 2 ^ i = 0 := by
      rw [ea, Int.emod_emod_of_dvd _ hp]; exact ha
    exact_mod_cast h3
  have hq : A = 2 ^ i * (A / 2 ^ i) := by
    have := Nat.div_add_mod A (2 ^ i)
    omega
  have ho : A ||| b = A + b := by
    rw [hq, ← Nat.two_pow_add_eq_or_of_lt hb (A / 2 ^ i)]
  show IntKind.i32.wrap ((BitVec.ofInt 32 a ||| BitVec.ofInt 32 (b : Int)).toNat : Int) = _
  rw [BitVec.toNat_or, hA, ex, ho, IntKind.wrap_i32]
  unfold wrap32
  push_cast
  omega
theorem hexStep_wrap (V x : Int) (h0 : 0 ≤ x) (h1 : x < 16) : hexStep (wrap32 V) x = wrap32 (V * 16 + x) := by
  unfold hexStep
  rw [i32_or_low 4 (by omega) _ x (by unfold wrap32; omega) h0 (by omega)]
  unfold wrap32; omega
theorem octStep_wrap (V x : Int) (h0 : 0 ≤ x) (h1 : x < 8) : octStep (wrap32 V) x = wrap32 (V * 8 + x) := by
  unfold octStep
  rw [i32_or_low 3 (by omega) _ x (by unfold wrap32; omega) h0 (by omega)]
  unfold wrap32; omega
theorem hex_esc (l : List Int) : ∀ V, hexGo (wrap32 V) l = (escGo 16 V l).map wrap32 := by
  induction l with
  | nil => intro V; rfl
  | cons c t ih =>
    intro V
    have hr := dgt_range c
    show (match uhx c with | none => none | some x => hexGo (hexStep (wrap32 V) x) t) = _
    rw [uhx_dg, escGo_cons]
    by_cases h : 16 ≤ dgt c
    · rw [if_pos h, if_pos h]; rfl
    · rw [if_neg h, if_neg h]
      show hexGo (hexStep (wrap32 V) (dgt c)) t = _
      rw [hexStep_wrap V _ hr.1 (by omega), ih]
theorem oct_esc (l : List Int) : ∀ V, octGo (wrap32 V) l = (escGo 8 V l).map wrap32 := by
  induction l with
  | nil => intro V; rfl
  | cons c t ih =>
    intro V
    have hr := dgt_range c
    show (if c < 48 ∨ 55 < c then none else octGo (octStep (wrap32 V) (c - 48)) t) = _
    rw [escGo_cons]
    by_cases h : 8 ≤ dgt c
    · rw [if_pos ((oct_dg c).2 h), if_pos h]; rfl
    · rw [if_neg (fun q => h ((oct_dg c).1 q)), if_neg h, ← oct_dg' c h, octStep_wrap V _ hr.1 (by omega), ih]
theorem esc_range (b : Int) (hb : 0 < b) (l : List Int) : ∀ V r : Int, 0 ≤ V → escGo b V l = some r → 0 ≤ r ∧ r < (V + 1) * b ^ l.length := by
  induction l with
  | nil => intro V r h h2; simp [escGo] at h2; subst h2; simp; omega
  | cons c t ih =>
    intro V r h h2
    have hr := dgt_range c
    rw [escGo_cons] at h2
    by_cases h3 : b ≤ dgt c
    · rw [if_pos h3] at h2; simp at h2
    · rw [if_neg h3] at h2
      have hm : 0 ≤ V * b := Int.mul_nonneg h (by omega)
      have := ih (V * b + dgt c) r (by omega) h2
      refine ⟨this.1, Int.lt_of_lt_of_le this.2 ?_⟩
      rw [List.length_cons, Int.pow_succ, Int.mul_comm (b ^ t.length) b, ← Int.mul_assoc]
      exact Int.mul_le_mul_of_nonneg_right (by rw [Int.add_mul]; omega) (Int.pow_nonneg (by omega))

theorem escGo_wrap (b : Int) (hb : 0 < b) (l : List Int) (n : Int) (hn : b ^ l.length ≤ n) (hn2 : n ≤ 2147483648) : (escGo b 0 l).map wrap32 = escGo b 0 l := by
  cases h : escGo b 0 l with
  | none => rfl
  | some r =>
    have := esc_range b hb l 0 r (by omega) h
    simp at this
    show some (wrap32 r) = some r
    congr 1
    unfold wrap32; omega

/-- The letters of the simple escapes. -/
def letter (c : Int) : Option Int := if c = 97 then some 7 else if c = 98 then some 8 else if c = 102 then some 12 else if c = 110 then some 10 else if c = 114 then some 13 else if c = 116 then some 9 else if c = 118 then some 11 else if c = 92 then some 92 else none
def badR (v : Int) : Prop := 1114111 < v ∨ (55296 ≤ v ∧ v < 57344)
instance (v : Int) : Decidable (badR v) := by unfold badR; infer_instance
/-- What the reference reads behind a backslash. -/
def escRest (q c : Int) (t : List Int) : Option (Int × Bool × Int) :=
      if c = q then some (q, false, 1)
      else if c = 120 then (if t.length < 2 then none else (escGo 16 0 (t.take 2)).bind fun v => some (v, true, 3))
      else if c = 117 then (if t.length < 4 then none else (escGo 16 0 (t.take 4)).bind fun v => if badR v then none else some (v, false, 5))
      else if c = 85 then (if t.length < 8 then none else (escGo 16 0 (t.take 8)).bind fun v => if badR v then none else some (v, false, 9))
      else if t.length < 2 then none else (escGo 8 0 (c :: t.take 2)).bind fun v => if 255 < v then none else some (v, true, 3)
def escF (q : Int) : List Int → Option (Int × Bool × Int)
  | [] => none
  | c :: t =>
    match letter c with
    | some v => some (v, false, 1)
    | none => escRest q c t
theorem escF_some {q c v : Int} {t : List Int} (h : letter c = some v) : escF q (c :: t) = some (v, false, 1) := by simp only [escF, h]
theorem escF_none {q c : Int} {t : List Int} (h : letter c = none) : escF q (c :: t) = escRest q c t := by simp only [escF, h]
/-- What UnquoteChar reads behind a backslash. -/
def ucRest (q c : Int) (t : List Int) : Option (Int × Bool × Int) :=
      if c = 120 then (if t.length < 2 then none else (hexGo 0 (t.take 2)).bind fun v => some (v, false, 3))
      else if c = 117 then (if t.length < 4 then none else (hexGo 0 (t.take 4)).bind fun v => if vR v = true then some (v, true, 5) else none)
      else if c = 85 then (if t.length < 8 then none else (hexGo 0 (t.take 8)).bind fun v => if vR v = true then some (v, true, 9) else none)
      else if 48 ≤ c ∧ c ≤ 55 then (if t.length < 2 then none else (octGo (c - 48) (t.take 2)).bind fun v => if 255 < v then none else some (v, false, 3))
      else if c = 39 ∨ c = 34 then (if c = q then some (c, false, 1) else none)
      else none
def ucEsc (q : Int) : List Int → Option (Int × Bool × Int)
  | [] => none
  | c :: t =>
    match letter c with
    | some v => some (v, false, 1)
    | none => ucRest q c t
theorem ucEsc_some {q c v : Int} {t : List Int} (h : letter c = some v) : ucEsc q (c :: t) = some (v, false, 1) := by simp only [ucEsc, h]
theorem ucEsc_none {q c : Int} {t : List Int} (h : letter c = none) : ucEsc q (c :: t) = ucRest q c t := by simp only [ucEsc, h]

def turnE (x : Int × Bool × Int) : Int × Bool × Int := (x.1, decide (5 ≤ x.2.2), x.2.2)
theorem turn_bind (o : Option Int) (p : Int → Option (Int × Bool × Int)) : (o.bind p).map turnE = o.bind fun v => (p v).map turnE := by
  cases o <;> rfl
theorem vR_bad (v : Int) (h : 0 ≤ v) : (vR v = true) ↔ ¬ badR v := by
  unfold vR badR
  rw [decide_eq_true_iff]; omega
theorem take_len {l : List Int} {n : Nat} (h : ¬ l.length < n) : (l.take n).length = n := by rw [List.length_take]; omega
theorem hex_small (l : List Int) (n : Nat) (hn : n ≤ 7) (h : ¬ l.length < n) : hexGo 0 (l.take n) = escGo 16 0 (l.take n) := by
  have := hex_esc (l.take n) 0
  rw [show wrap32 0 = 0 by rfl] at this
  rw [this]
  apply escGo_wrap 16 (by omega) _ (16 ^ 7) ?_ (by decide)
  rw [take_len h]
  have : (16 : Nat) ^ n ≤ 16 ^ 7 := Nat.pow_le_pow_right (by decide) hn
  exact_mod_cast this
theorem uc_esc (q : Int) (hq : q = 39 ∨ q = 34) (U : List Int) : ucEsc q U = (escF q U).map turnE := by
  cases U with
  | nil => rfl
  | cons c t =>
    cases hl : letter c with
    | some v => rw [ucEsc_some hl, escF_some hl]; rfl
    | none =>
      rw [ucEsc_none hl, escF_none hl]
      unfold ucRest escRest
      by_cases e1 : c = 120
      · rw [if_pos e1, if_neg (show ¬ c = q by omega), if_pos e1]
        by_cases hn : t.length < 2
        · rw [if_pos hn, if_pos hn]; rfl
        · rw [if_neg hn, if_neg hn, turn_bind, hex_small t 2 (by omega) hn]; rfl
      · rw [if_neg e1]
        by_cases e2 : c = 117
        · rw [if_pos e2, if_neg (show ¬ c = q by omega), if_neg e1, if_pos e2]
          by_cases hn : t.length < 4
          · rw [if_pos hn, if_pos hn]; rfl
          · rw [if_neg hn, if_neg hn, turn_bind, hex_small t 4 (by omega) hn]
            cases hg : escGo 16 0 (t.take 4) with
            | none => rfl
            | some v =>
              have := esc_range 16 (by omega) _ 0 v (by omega) hg
              have hv := vR_bad v this.1
              simp only [Option.bind_some]
              by_cases hb : badR v
              · rw [if_neg (fun k => hv.1 k hb), if_pos hb]; rfl
              · rw [if_pos (hv.2 hb), if_neg hb]; rfl
        · rw [if_neg e2]
          by_cases e3 : c = 85
          · rw [if_pos e3, if_neg (show ¬ c = q by omega), if_neg e1, if_neg e2, if_pos e3]
            by_cases hn : t.length < 8
            · rw [if_pos hn, if_pos hn]; rfl
            · rw [if_neg hn, if_neg hn, turn_bind]
              have hh := hex_esc (t.take 8) 0
              rw [show wrap32 0 = 0 by rfl] at hh
              rw [hh]
              cases hg : escGo 16 0 (t.take 8) with
              | none => rfl
              | some v =>
                have hr := esc_range 16 (by omega) _ 0 v (by omega) hg
                rw [take_len hn] at hr
                have h2 : v < 4294967296 := by have := hr.2; simpa using this
                simp only [Option.map_some, Option.bind_some]
                by_cases hb : badR v
                · rw [if_pos hb, if_neg]
                  · rfl
                  · unfold vR
                    unfold badR at hb
                    rw [decide_eq_true_iff]; unfold wrap32; omega
                · have hw : wrap32 v = v := by unfold badR at hb; unfold wrap32; omega
                  rw [hw, if_neg hb, if_pos ((vR_bad v hr.1).2 hb)]; rfl
          · rw [if_neg e3]
            by_cases e4 : 48 ≤ c ∧ c ≤ 55
            · rw [if_pos e4, if_neg (show ¬ c = q by omega), if_neg e1, if_neg e2, if_neg e3]
              by_cases hn : t.length < 2
              · rw [if_pos hn, if_pos hn]; rfl
              · rw [if_neg hn, if_neg hn, turn_bind]
                have h8 : ¬ 8 ≤ dgt c := fun k => by have := (oct_dg c).2 k; omega
                have hc := oct_esc (c :: t.take 2) 0
                have hc2 : octGo 0 (c :: t.take 2) = octGo (c - 48) (t.take 2) := by
                  show (if c < 48 ∨ 55 < c then none else octGo (octStep 0 (c - 48)) (t.take 2)) = _
                  rw [if_neg (by omega)]
                  have := octStep_wrap 0 (c - 48) (by omega) (by omega)
                  rw [show wrap32 0 = 0 by rfl] at this
                  rw [this, show wrap32 (0 * 8 + (c - 48)) = c - 48 by unfold wrap32; omega]
                rw [show wrap32 0 = 0 by rfl, hc2] at hc
                rw [hc, escGo_wrap 8 (by omega) _ 512 (by rw [List.length_cons, take_len hn]; decide) (by decide)]
                congr 1
                funext v
                by_cases hv : 255 < v
                · rw [if_pos hv, if_pos hv]; rfl
                · rw [if_neg hv, if_neg hv]; rfl
            · rw [if_neg e4]
              by_cases e5 : c = q
              · rw [if_pos (show c = 39 ∨ c = 34 by omega), if_pos e5, if_pos e5, e5]; rfl
              · rw [if_neg e5, if_neg e1, if_neg e2, if_neg e3]
                have hs : (if t.length < 2 then none else (escGo 8 0 (c :: t.take 2)).bind fun v => if 255 < v then none else some (v, true, 3) : Option (Int × Bool × Int)) = none := by
                  split
                  · rfl
                  · rw [escGo_cons, if_pos ((oct_dg c).1 (by omega))]; rfl
                rw [hs, if_neg e5]
                split <;> rfl
theorem esc_facts (q : Int) (hq : q = 39 ∨ q = 34) (U : List Int) (v n : Int) (m : Bool) (h : escF q U = some (v, m, n)) :
    1 ≤ n ∧ n ≤ U.length ∧ n ≤ 9 ∧ 0 ≤ v ∧ ¬ badR v ∧ m = decide (n = 3) ∧ (n = 3 → v ≤ 255) ∧ (n = 1 → v < 128) := by
  cases U with
  | nil => simp [escF] at h
  | cons c t =>
    simp only [List.length_cons]
    cases hl : letter c with
    | some x =>
      rw [escF_some hl] at h
      simp only [Option.some.injEq, Prod.mk.injEq] at h
      obtain ⟨rfl, rfl, rfl⟩ := h
      have : 0 ≤ x ∧ x < 128 := by
        unfold letter at hl
        repeat' split at hl
        all_goals first | (simp at hl; omega) | simp at hl
      unfold badR
      refine ⟨by omega, by omega, by omega, by omega, by omega, by simp, by omega, by omega⟩
    | none =>
      rw [escF_none hl] at h
      unfold escRest at h
      by_cases e5 : c = q
      · rw [if_pos e5] at h
        simp only [Option.some.injEq, Prod.mk.injEq] at h
        obtain ⟨rfl, rfl, rfl⟩ := h
        unfold badR
        refine ⟨by omega, by omega, by omega, by omega, by omega, by simp, by omega, by omega⟩
      · rw [if_neg e5] at h
        by_cases e1 : c = 120
        · rw [if_pos e1] at h
          by_cases hn : t.length < 2
          · rw [if_pos hn] at h; simp at h
          · rw [if_neg hn] at h
            cases hg : escGo 16 0 (t.take 2) with
            | none => rw [hg] at h; simp at h
            | some x =>
              rw [hg] at h
              simp only [Option.bind_some, Option.some.injEq, Prod.mk.injEq] at h
              obtain ⟨rfl, rfl, rfl⟩ := h
              have hr := esc_range 16 (by omega) _ 0 x (by omega) hg
              rw [take_len hn] at hr
              have h2 : x < 256 := by have := hr.2; simpa using this
              unfold badR
              refine ⟨by omega, by omega, by omega, by omega, by omega, by simp, by omega, by omega⟩
        · rw [if_neg e1] at h
          by_cases e2 : c = 117
          · rw [if_pos e2] at h
            by_cases hn : t.length < 4
            · rw [if_pos hn] at h; simp at h
            · rw [if_neg hn] at h
              cases hg : escGo 16 0 (t.take 4) with
              | none => rw [hg] at h; simp at h
              | some x =>
                rw [hg] at h
                simp only [Option.bind_some] at h
                have hr := esc_range 16 (by omega) _ 0 x (by omega) hg
                by_cases hb : badR x
                · rw [if_pos hb] at h; simp at h
                · rw [if_neg hb] at h
                  simp only [Option.some.injEq, Prod.mk.injEq] at h
                  obtain ⟨rfl, rfl, rfl⟩ := h
                  refine ⟨by omega, by omega, by omega, by omega, hb, by simp, by omega, by omega⟩
          · rw [if_neg e2] at h
            by_cases e3 : c = 85
            · rw [if_pos e3] at h
              by_cases hn : t.length < 8
              · rw [if_pos hn] at h; simp at h
              · rw [if_neg hn] at h
                cases hg : escGo 16 0 (t.take 8) with
                | none => rw [hg] at h; simp at h
                | some x =>
                  rw [hg] at h
                  simp only [Option.bind_some] at h
                  have hr := esc_range 16 (by omega) _ 0 x (by omega) hg
                  by_cases hb : badR x
                  · rw [if_pos hb] at h; simp at h
                  · rw [if_neg hb] at h
                    simp only [Option.some.injEq, Prod.mk.injEq] at h
                    obtain ⟨rfl, rfl, rfl⟩ := h
                    refine ⟨by omega, by omega, by omega, by omega, hb, by simp, by omega, by omega⟩
            · rw [if_neg e3] at h
              by_cases hn : t.length < 2
              · rw [if_pos hn] at h; simp at h
              · rw [if_neg hn] at h
                cases hg : escGo 8 0 (c :: t.take 2) with
                | none => rw [hg] at h; simp at h
                | some x =>
                  rw [hg] at h
                  simp only [Option.bind_some] at h
                  have hr := esc_range 8 (by omega) _ 0 x (by omega) hg
                  by_cases hb : 255 < x
                  · rw [if_pos hb] at h; simp at h
                  · rw [if_neg hb] at h
                    simp only [Option.some.injEq, Prod.mk.injEq] at h
                    obtain ⟨rfl, rfl, rfl⟩ := h
                    unfold badR
                    refine ⟨by omega, by omega, by omega, by omega, by omega, by simp, by omega, by omega⟩
end Go.Proofs.YtlfmgidpdmmpkaaGreatDoor

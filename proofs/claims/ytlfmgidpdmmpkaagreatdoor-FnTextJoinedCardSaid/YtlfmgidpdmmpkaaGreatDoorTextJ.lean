/- strconv.unquote joined, for a program that lacks the reference's readers of texts. -/
import Derived.Test.YtlfmgidpdmmpkaaGreatDoorUnqAny
import Derived.Test.YtlfmgidpdmmpkaaGreatDoorPlainU
import Derived.Test.YtlfmgidpdmmpkaaGreatDoorShelf
namespace Go.Proofs.YtlfmgidpdmmpkaaGreatDoor
open Go Go.RowKit Go.Proofs.YtlfmgidpdmmpkaaGreatDoorW.PrintWords
set_option linter.unusedVariables false
set_option linter.unusedSimpArgs false


theorem ixL_none {l : List Int} {c : Int} (h : ixL l c = -1) : c ∉ l := by
  induction l with
  | nil => simp
  | cons b l ih =>
    unfold ixL at h
    by_cases e : b = c
    · rw [if_pos e] at h; omega
    · rw [if_neg e] at h
      by_cases k : ixL l c = -1
      · have := ih k
        simp only [List.mem_cons, not_or]
        exact ⟨fun x => e x.symm, this⟩
      · rw [if_neg k] at h
        have := ixL_ge l c
        omega
theorem ixL_at {c : Int} : ∀ {l : List Int} {i : Nat}, ixL l c = (i : Int) → c ∉ l.take i ∧ l.drop i = c :: l.drop (i + 1) := by
  intro l
  induction l with
  | nil => intro i h; simp only [ixL] at h; omega
  | cons b l ih =>
    intro i h
    unfold ixL at h
    by_cases e : b = c
    · rw [if_pos e] at h
      obtain rfl : i = 0 := by omega
      simp [e]
    · rw [if_neg e] at h
      by_cases k : ixL l c = -1
      · rw [if_pos k] at h; omega
      · rw [if_neg k] at h
        have hg := ixL_ge l c
        obtain ⟨j, rfl⟩ : ∃ j, i = j + 1 := ⟨i - 1, by omega⟩
        have := ih (i := j) (by omega)
        refine ⟨?_, ?_⟩
        · rw [List.take_succ_cons, List.mem_cons, not_or]
          exact ⟨fun x => e x.symm, this.1⟩
        · rw [List.drop_succ_cons, List.drop_succ_cons]
          exact this.2
theorem rawGo_id (l : List Int) : ∀ acc, (13 : Int) ∉ l → rawGo l acc = acc ++ l := by
  induction l with
  | nil => intro acc _; simp [rawGo]
  | cons c l ih =>
    intro acc h
    simp only [List.mem_cons, not_or] at h
    rw [rawGo_cons, if_neg (fun e => h.1 e.symm), ih _ h.2]
    simp
theorem strOf_bytes (s : ByteArray) : strOfNums (bytesOf s) = s := by
  obtain ⟨⟨l⟩⟩ := s
  unfold strOfNums bytesOf
  simp only [List.map_map]
  congr 2
  apply List.ext_getElem
  · simp
  · intro i h1 h2
    simp

/-- A character of several bytes, written again, gives its bytes. -/
theorem rn_enc (n b0 b1 b2 b3 : Nat) (h0 : b0 < 256) (h1 : b1 < 256) (h2 : b2 < 256) (h3 : b3 < 256) (hh : 128 ≤ b0) (hp : 0 < (rnN n b0 b1 b2 b3).2) :
    Lib.encodeRuneZ ((rnN n b0 b1 b2 b3).1 : Nat) = ([(b0 : Int), b1, b2, b3] : List Int).take (rnN n b0 b1 b2 b3).2 := by
  revert hp
  unfold rnN
  by_cases cn : n = 0
  · rw [if_pos cn]; intro hp; exact absurd hp (by decide)
  rw [if_neg cn, if_neg (by omega)]
  by_cases c1 : 194 ≤ b0 ∧ b0 < 224
  · rw [if_pos c1]
    by_cases a : n < 2 ∨ b1 / 64 ≠ 2
    · rw [if_pos a]; intro hp; exact absurd hp (by decide)
    · rw [if_neg a]; intro _
      simp only []
      rw [Lib.encodeRuneZ_two (by omega) (by omega)]
      show _ = [(b0 : Int), (b1 : Int)]
      congr 1
      · omega
      · congr 1; omega
  rw [if_neg c1]
  by_cases c2 : 224 ≤ b0 ∧ b0 < 240
  · rw [if_pos c2]
    by_cases a : n < 3 ∨ b1 / 64 ≠ 2 ∨ b2 / 64 ≠ 2
    · rw [if_pos a]; intro hp; exact absurd hp (by decide)
    · rw [if_neg a]
      by_cases a2 : b0 % 16 * 4096 + b1 % 64 * 64 + b2 % 64 < 2048 ∨ (55296 ≤ b0 % 16 * 4096 + b1 % 64 * 64 + b2 % 64 ∧ b0 % 16 * 4096 + b1 % 64 * 64 + b2 % 64 < 57344)
      · rw [if_pos a2]; intro hp; exact absurd hp (by decide)
      · rw [if_neg a2]; intro _
        simp only []
        rw [Lib.encodeRuneZ_three (by omega)]
        show _ = [(b0 : Int), (b1 : Int), (b2 : Int)]
        congr 1
        · omega
        · congr 1
          · omega
          · congr 1; omega
  rw [if_neg c2]
  by_cases c3 : 240 ≤ b0 ∧ b0 < 245
  · rw [if_pos c3]
    by_cases a : n < 4 ∨ b1 / 64 ≠ 2 ∨ b2 / 64 ≠ 2 ∨ b3 / 64 ≠ 2
    · rw [if_pos a]; intro hp; exact absurd hp (by decide)
    · rw [if_neg a]
      by_cases a2 : b0 % 8 * 262144 + b1 % 64 * 4096 + b2 % 64 * 64 + b3 % 64 < 65536 ∨ 1114111 < b0 % 8 * 262144 + b1 % 64 * 4096 + b2 % 64 * 64 + b3 % 64
      · rw [if_pos a2]; intro hp; exact absurd hp (by decide)
      · rw [if_neg a2]; intro _
        simp only []
        rw [Lib.encodeRuneZ_four (by omega) (by omega)]
        show _ = [(b0 : Int), (b1 : Int), (b2 : Int), (b3 : Int)]
        congr 1
        · omega
        · congr 1
          · omega
          · congr 1
            · omega
            · congr 1; omega
  rw [if_neg c3]
  intro hp; exact absurd hp (by decide)

theorem bytes_len (s : ByteArray) : (bytesOf s).length = s.size := by unfold bytesOf; simp
theorem bytes_at (s : ByteArray) (i : Nat) (h : i < (bytesOf s).length) : (bytesOf s)[i] = bt s i := by
  have h2 : i < s.size := by rw [← bytes_len]; exact h
  have h3 := bt_at s i (by simpa using h2)
  have h4 : (bytesOf s)[i]? = some (bt s i) := by
    rw [← h3]
    unfold bytesOf
    rw [List.getElem?_map, List.getElem?_eq_getElem (show i < s.data.toList.length by simpa using h2)]
    rfl
  rw [List.getElem?_eq_getElem h] at h4
  exact Option.some.inj h4
theorem bytes_pre (s : ByteArray) (a b : Nat) (hb : b ≤ s.size) : bytesOf (s.extract a b) = ((bytesOf s).take b).drop a := by
  apply List.ext_getElem
  · rw [bytes_len, List.length_drop, List.length_take, bytes_len, ByteArray.size_extract]; try omega
  · intro i h1 h2
    rw [bytes_at, List.getElem_drop, List.getElem_take, bytes_at]
    have hz := bytes_len (s.extract a b)
    rw [ByteArray.size_extract] at hz
    exact bt_cut s a b i (by omega) hb
theorem bn_cast (s : ByteArray) (i : Int) : ((bn s i : Nat) : Int) = bt s i := bn_bt s i
theorem take4 (s : ByteArray) (n : Nat) (h4 : n ≤ 4) (hn : n ≤ s.size) : ([bt s 0, bt s 1, bt s 2, bt s 3] : List Int).take n = bytesOf (s.extract 0 n) := by
  rw [bytes_pre s 0 n hn, List.drop_zero]
  apply List.ext_getElem
  · simp [bytes_len]; omega
  · intro i h1 h2
    have hi : i < n := by simp at h1; omega
    rw [List.getElem_take, List.getElem_take, bytes_at]
    have : i = 0 ∨ i = 1 ∨ i = 2 ∨ i = 3 := by omega
    rcases this with rfl | rfl | rfl | rfl <;> rfl
theorem rnS_enc (T : ByteArray) (hh : 128 ≤ bt T 0) (hp : 0 < (rnS T).2) : Lib.encodeRuneZ ((rnS T).1 : Nat) = bytesOf (T.extract 0 (rnS T).2) := by
  have hl := rn_le T.size (bn T 0) (bn T 1) (bn T 2) (bn T 3)
  have hb := bn_cast T 0
  rw [← take4 T (rnS T).2 hl.2.1 hl.1, ← bn_cast T 0, ← bn_cast T 1, ← bn_cast T 2, ← bn_cast T 3]
  exact rn_enc _ _ _ _ _ (bn_lt T 0) (bn_lt T 1) (bn_lt T 2) (bn_lt T 3) (by omega) hp

theorem rnS_ascii (T : ByteArray) (h0 : 0 < T.size) (h : bt T 0 < 128) : rnS T = (bn T 0, 1) := by
  have hb := bn_cast T 0
  unfold rnS rnN
  rw [if_neg (by omega), if_pos (by omega)]
theorem bytes_cons (T : ByteArray) (h0 : 0 < T.size) : bytesOf T = bt T 0 :: bytesOf (T.extract 1 T.size) := by
  rw [bytes_extract T 1 (by omega)]
  have h1 := bytes_at T 0 (by rw [bytes_len]; omega)
  have h2 : 0 < (bytesOf T).length := by rw [bytes_len]; omega
  have h3 := List.drop_eq_getElem_cons h2
  rw [List.drop_zero] at h3
  rw [h1] at h3
  exact h3
theorem extract_all (T : ByteArray) : T.extract 0 T.size = T := by simp

theorem rn_cont (n b0 b1 b2 b3 : Nat) (h0 : 128 ≤ b0) (hp : 0 < (rnN n b0 b1 b2 b3).2) : (1 < (rnN n b0 b1 b2 b3).2 → 128 ≤ b1) ∧ (2 < (rnN n b0 b1 b2 b3).2 → 128 ≤ b2) ∧ (3 < (rnN n b0 b1 b2 b3).2 → 128 ≤ b3) := by
  revert hp
  unfold rnN
  repeat' split
  all_goals (intro _; simp only []; omega)
theorem rnS_cont (T : ByteArray) (h0 : 128 ≤ bt T 0) (hp : 0 < (rnS T).2) (j : Nat) (hj : j < (rnS T).2) : 128 ≤ bt T j := by
  have hl := (rn_le T.size (bn T 0) (bn T 1) (bn T 2) (bn T 3)).2.1
  have hl2 : (rnS T).2 ≤ 4 := hl
  have hc := rn_cont T.size (bn T 0) (bn T 1) (bn T 2) (bn T 3) (by have := bn_cast T 0; omega) hp
  have c1 : 1 < (rnS T).2 → 128 ≤ bn T 1 := hc.1
  have c2 : 2 < (rnS T).2 → 128 ≤ bn T 2 := hc.2.1
  have c3 : 3 < (rnS T).2 → 128 ≤ bn T 3 := hc.2.2
  have : j = 0 ∨ j = 1 ∨ j = 2 ∨ j = 3 := by omega
  rcases this with rfl | rfl | rfl | rfl
  · exact h0
  · have := bn_cast T 1; have := c1 hj; show 128 ≤ bt T 1; omega
  · have := bn_cast T 2; have := c2 hj; show 128 ≤ bt T 2; omega
  · have := bn_cast T 3; have := c3 hj; show 128 ≤ bt T 3; omega
theorem bt_drop (T : ByteArray) (n j : Nat) (h : n + j < T.size) : bt (T.extract n T.size) j = bt T (n + j : Nat) := bt_cut T n T.size j (by omega) (by omega)
theorem uqLoop_succ (k : Nat) (T : ByteArray) (acc : List Int) : uqLoop (k + 1) T acc = (if T.size = 0 then none
    else if bt T 0 = 34 then some (acc, T.extract 1 T.size)
    else if bt T 0 = 10 then none
    else match ucF (decT T) 34 T with
      | none => none
      | some (r, m, rem) => uqLoop k rem (acc ++ chunkU r m)) := rfl
/-- A plain character at the front. -/
theorem uc_plain (T : ByteArray) (h0 : 0 < T.size) (h34 : bt T 0 ≠ 34) (h92 : bt T 0 ≠ 92) (hp : 0 < (rnS T).2) : ∃ r m, ucF (decT T) 34 T = some (r, m, T.extract (rnS T).2 T.size) ∧ chunkU r m = bytesOf (T.extract 0 (rnS T).2) := by
  have hd : Lib.decodeGo T = rnS T := dec_rn T h0 hp
  unfold ucF
  rw [if_neg (by omega), if_neg (by omega)]
  by_cases hh : 128 ≤ bt T 0
  · have hge := (rn_le T.size (bn T 0) (bn T 1) (bn T 2) (bn T 3)).2.2.1 (by have := bn_cast T 0; omega) hp
    have hge2 : 128 ≤ (rnS T).1 := hge
    rw [if_pos hh]
    refine ⟨((rnS T).1 : Nat), true, ?_, ?_⟩
    · unfold decT
      rw [hd]
    · unfold chunkU
      rw [if_neg (by simp; omega), rnS_enc T (by omega) hp]
  · rw [if_neg hh, if_pos (by omega)]
    have hr := rnS_ascii T (by omega) (by omega)
    rw [hr]
    refine ⟨bt T 0, false, rfl, ?_⟩
    unfold chunkU
    rw [if_pos (Or.inr rfl)]
    simp only []
    have := take4 T 1 (by omega) (by omega)
    rw [← this]
    rfl
theorem loop_quick : ∀ (k i : Nat) (T : ByteArray) (acc : List Int), VT T → T.size < k → i < T.size → bt T i = 34 → (∀ j : Nat, j < i → bt T j ≠ 34 ∧ bt T j ≠ 92 ∧ bt T j ≠ 10) →
    uqLoop k T acc = some (acc ++ (bytesOf T).take i, T.extract (i + 1) T.size) := by
  intro k
  induction k with
  | zero => intro i T acc _ h; omega
  | succ k ih =>
    intro i T acc hV hk hi h34 hno
    rw [uqLoop_succ, if_neg (by omega)]
    by_cases i0 : i = 0
    · subst i0
      have h34' : bt T 0 = 34 := h34
      rw [if_pos h34']
      simp
    have h3 := hno 0 (by omega)
    have h34' : bt T 0 ≠ 34 := h3.1
    have h92' : bt T 0 ≠ 92 := h3.2.1
    have h10' : bt T 0 ≠ 10 := h3.2.2
    rw [if_neg h34', if_neg h10']
    have hst := vt_step T hV (by omega)
    obtain ⟨r, m, hu1, hu2⟩ := uc_plain T (by omega) h34' h92' hst.1
    rw [hu1]
    simp only []
    rw [hu2]
    have hni : (rnS T).2 ≤ i := by
      by_cases hh : 128 ≤ bt T 0
      · by_cases c : (rnS T).2 ≤ i
        · exact c
        · have := rnS_cont T hh hst.1 i (by omega)
          omega
      · rw [rnS_ascii T (by omega) (by omega)]
        show 1 ≤ i
        omega
    have hle := rnS_le T
    have hd := bt_drop T (rnS T).2 (i - (rnS T).2) (by omega)
    rw [ih (i - (rnS T).2) (T.extract (rnS T).2 T.size) _ hst.2 (by rw [size_cut]; omega) (by rw [size_cut]; omega) (by rw [hd, show (rnS T).2 + (i - (rnS T).2) = i by omega]; exact h34) ?_]
    · rw [extract_two, show (rnS T).2 + (i - (rnS T).2 + 1) = i + 1 by omega, bytes_extract T _ hle, bytes_pre T 0 _ hle, List.drop_zero, List.append_assoc]
      congr 3
      have := List.take_append_drop (rnS T).2 ((bytesOf T).take i)
      rw [List.take_take, Nat.min_eq_left hni, List.drop_take] at this
      exact this
    · intro j hj
      rw [bt_drop T _ j (by omega)]
      exact hno _ (by omega)
theorem uc_rem (T : ByteArray) (r : Int) (m : Bool) (rem : ByteArray) (h : ucF (decT T) 34 T = some (r, m, rem)) : ∃ a, 1 ≤ a ∧ a ≤ T.size ∧ rem = T.extract a T.size := by
  unfold ucF at h
  by_cases h0 : T.size = 0
  · rw [if_pos h0] at h; simp at h
  rw [if_neg h0] at h
  by_cases h1 : bt T 0 = 34
  · rw [if_pos h1] at h; simp at h
  rw [if_neg h1] at h
  have hd := decT_facts T (by omega)
  by_cases h2 : 128 ≤ bt T 0
  · rw [if_pos h2] at h
    simp only [Option.some.injEq, Prod.mk.injEq] at h
    exact ⟨_, hd.2.2.1, hd.2.2.2, h.2.2.symm⟩
  rw [if_neg h2] at h
  by_cases h3 : bt T 0 ≠ 92
  · rw [if_pos h3] at h
    simp only [Option.some.injEq, Prod.mk.injEq] at h
    exact ⟨1, by omega, by omega, h.2.2.symm⟩
  rw [if_neg h3, uc_esc 34 (Or.inr rfl)] at h
  cases he : escF 34 ((bytesOf T).drop 1) with
  | none => rw [he] at h; simp at h
  | some y =>
    obtain ⟨v, mm, n⟩ := y
    rw [he] at h
    have hf := esc_facts 34 (Or.inr rfl) _ v n mm he
    simp only [Option.map_some, Option.some.injEq, Prod.mk.injEq, turnE] at h
    have hb := hf.2.1
    rw [List.length_drop, bytes_len] at hb
    exact ⟨_, by omega, by omega, h.2.2.symm⟩
theorem loop_rest : ∀ (k : Nat) (T : ByteArray) (acc o : List Int) (r : ByteArray), uqLoop k T acc = some (o, r) → ∃ a, a < T.size ∧ r = T.extract (a + 1) T.size ∧ bt T a = 34 := by
  intro k
  induction k with
  | zero => intro T acc o r h; simp [uqLoop] at h
  | succ k ih =>
    intro T acc o r h
    rw [uqLoop_succ] at h
    by_cases h0 : T.size = 0
    · rw [if_pos h0] at h; simp at h
    rw [if_neg h0] at h
    by_cases h34 : bt T 0 = 34
    · rw [if_pos h34] at h
      simp only [Option.some.injEq, Prod.mk.injEq] at h
      exact ⟨0, by omega, h.2.symm, h34⟩
    rw [if_neg h34] at h
    by_cases h10 : bt T 0 = 10
    · rw [if_pos h10] at h; simp at h
    rw [if_neg h10] at h
    cases hu : ucF (decT T) 34 T with
    | none => rw [hu] at h; simp at h
    | some x =>
      obtain ⟨c, m, rem⟩ := x
      rw [hu] at h
      obtain ⟨a, ha1, ha2, rfl⟩ := uc_rem T c m rem hu
      obtain ⟨b, hb1, hb2, hb3⟩ := ih _ _ _ _ h
      rw [size_cut] at hb1
      refine ⟨a + b, by omega, ?_, ?_⟩
      · rw [hb2, extract_two]; congr 1
      · rw [bt_drop T a b (by omega)] at hb3; exact hb3

/-- What strconv.unquote gives at a text that does not begin with 39: the text, and what stands behind the closing quote. -/
def unqF (s : ByteArray) : Option (List Int × ByteArray) :=
  if s.size < 2 then none
  else if ixS (s.extract 1 s.size) (bt s 0) = -1 then none
  else if bt s 0 = 96 then some (rawGo (((bytesOf s).drop 1).take (ixS (s.extract 1 s.size) 96).toNat) [], s.extract ((ixS (s.extract 1 s.size) 96).toNat + 2) s.size)
  else if bt s 0 = 34 then uqLoop ((s.extract 1 s.size).size + 1) (s.extract 1 s.size) []
  else none
theorem ix_nat (S : ByteArray) (c : Int) (h : ixS S c ≠ -1) : ∃ i : Nat, ixS S c = (i : Int) ∧ i < S.size := by
  have h1 := ixL_ge (bytesOf S) c
  have h2 := ixL_lt (bytesOf S) c
  rw [bytes_len] at h2
  unfold ixS at h ⊢
  exact ⟨(ixL (bytesOf S) c).toNat, by omega, by omega⟩
theorem ix_bt (S : ByteArray) (c : Int) (i : Nat) (h : ixS S c = (i : Int)) (hi : i < S.size) : bt S i = c ∧ ∀ j : Nat, j < i → bt S j ≠ c := by
  obtain ⟨h1, h2⟩ := ixL_at (l := bytesOf S) (i := i) h
  have hl : i < (bytesOf S).length := by rw [bytes_len]; exact hi
  refine ⟨?_, fun j hj e => h1 ?_⟩
  · rw [List.drop_eq_getElem_cons hl] at h2
    rw [← bytes_at S i hl]
    exact (List.cons.inj h2).1
  · have hl2 : j < (bytesOf S).length := by omega
    rw [← e, ← bytes_at S j hl2]
    exact List.mem_take_iff_getElem.2 ⟨j, by omega, rfl⟩
theorem ix_no (S : ByteArray) (c : Int) (h : ixS S c = -1) (j : Nat) (hj : j < S.size) : bt S j ≠ c := by
  have h1 := ixL_none (l := bytesOf S) h
  intro e
  have hl : j < (bytesOf S).length := by rw [bytes_len]; exact hj
  rw [← e, ← bytes_at S j hl] at h1
  exact h1 (List.getElem_mem hl)

theorem unquote_all (s : ByteArray) (hs : s.size ≤ 4096) (hV : VT s) (h39 : bt s 0 ≠ 39) (t : TypeId) (v : Value) (w : World) (hE : ErrAt w t v) (hTB : ∀ W, Below w.heap.size w W → Lib.Utf8Tabs 8 9 W) :
    Calls Tryz.prog 93 #[.string s, .bool true] w fun e w' => e = .returned (unqRes s t v (unqF s)) ∧ Below w.heap.size w w' := by
  unfold unqF
  by_cases h2 : s.size < 2
  · rw [if_pos h2]; exact unq_short s hs t v w hE h2
  rw [if_neg h2]
  have hz := size_cut s 1
  by_cases hix : ixS (s.extract 1 s.size) (bt s 0) = -1
  · rw [if_pos hix]; exact unq_open s hs t v w hE (by omega) _ rfl hix
  rw [if_neg hix]
  obtain ⟨i, hi, hi2⟩ := ix_nat _ _ hix
  have hb := ix_bt _ _ i hi hi2
  have hat := ixL_at (l := bytesOf (s.extract 1 s.size)) (i := i) hi
  have hSb : bytesOf (s.extract 1 s.size) = (bytesOf s).drop 1 := bytes_extract s 1 (by omega)
  by_cases h96 : bt s 0 = 96
  · rw [if_pos h96]
    rw [h96] at hi hb hat
    rw [hi, Int.toNat_natCast]
    by_cases h13 : ixS (s.extract 0 (i + 2)) 13 = -1
    · have hr := unq_raw s hs t v w hE (by omega) _ rfl i (by omega) h96 hi _ rfl h13
      have : rawGo (((bytesOf s).drop 1).take i) [] = ((bytesOf s).drop 1).take i := by
        rw [rawGo_id]; rfl
        have h3 := ixL_none (l := bytesOf (s.extract 0 (i + 2))) h13
        rw [bytes_pre s 0 (i + 2) (by omega), List.drop_zero] at h3
        intro k
        apply h3
        have h4 : ((bytesOf s).drop 1).take i = ((bytesOf s).take (i + 1)).drop 1 := by rw [List.drop_take]; rfl
        rw [h4] at k
        have k2 := List.mem_of_mem_drop k
        have h5 : (bytesOf s).take (i + 1) = ((bytesOf s).take (i + 2)).take (i + 1) := by rw [List.take_take]; congr 1; omega
        rw [h5] at k2
        exact List.mem_of_mem_take k2
      rw [this]
      have hst : strOfNums (((bytesOf s).drop 1).take i) = s.extract 1 (i + 1) := by
        rw [← strOf_bytes (s.extract 1 (i + 1)), bytes_pre s 1 (i + 1) (by omega), List.drop_take]
        rfl
      show Calls _ _ _ _ fun e w' => e = .returned (unqOk (strOfNums (((bytesOf s).drop 1).take i)) (s.extract (i + 2) s.size)) ∧ _
      rw [hst]
      exact hr
    · refine unq_rawcr s hs t v w hE (by omega) _ rfl i ?_ (by omega) h96 hi _ rfl (by simpa using h13)
      by_cases i0 : i = 0
      · exfalso
        apply h13
        subst i0
        have hb0 : bt (s.extract 1 s.size) 0 = 96 := hb.1
        unfold ixS
        rw [bytes_pre s 0 (0 + 2) (by omega), List.drop_zero, bytes_cons s (by omega), bytes_cons (s.extract 1 s.size) (by omega), h96, hb0]
        rfl
      · omega
  rw [if_neg h96]
  by_cases h34 : bt s 0 = 34
  · rw [if_pos h34]
    rw [h34] at hi hb hat
    have hVS : VT (s.extract 1 s.size) := by
      have := (vt_step s hV (by omega)).2
      rw [rnS_ascii s (by omega) (by omega)] at this
      exact this
    by_cases h92 : ixS (s.extract 0 (i + 2)) 92 = -1
    · have h92' : (ixS (s.extract 0 (i + 2)) 92 != -1) = false := by simpa using h92
      by_cases h10 : ixS (s.extract 0 (i + 2)) 10 = -1
      · have h10' : (ixS (s.extract 0 (i + 2)) 10 != -1) = false := by simpa using h10
        have hq : uqLoop ((s.extract 1 s.size).size + 1) (s.extract 1 s.size) [] = some (((bytesOf s).drop 1).take i, s.extract (i + 2) s.size) := by
          rw [loop_quick _ i _ [] hVS (by omega) hi2 hb.1 ?_, hSb, extract_two, show 1 + (i + 1) = i + 2 by omega]
          · rfl
          · intro j hj
            refine ⟨hb.2 j hj, ?_, ?_⟩
            · have := ix_no _ _ h92 (j + 1) (by rw [ByteArray.size_extract]; omega)
              rw [bt_cut s 0 (i + 2) (j + 1) (by omega) (by omega)] at this
              rw [bt_drop s 1 j (by omega)]
              rw [show 1 + j = 0 + (j + 1) by omega]
              exact this
            · have := ix_no _ _ h10 (j + 1) (by rw [ByteArray.size_extract]; omega)
              rw [bt_cut s 0 (i + 2) (j + 1) (by omega) (by omega)] at this
              rw [bt_drop s 1 j (by omega)]
              rw [show 1 + j = 0 + (j + 1) by omega]
              exact this
        have hvs : ∀ W, Below w.heap.size w W → Calls Tryz.prog 166 #[.string (s.extract 1 (i + 1))] W fun e w' => e = .returned (.bool (Lib.validD (s.extract 1 (i + 1)).data.toList)) ∧ Below W.heap.size W w' := by
          intro W hW
          exact Tryz.utf8_ValidString _ W (by rw [ByteArray.size_extract]; omega) (hTB W hW)
        cases hB : Lib.validD (s.extract 1 (i + 1)).data.toList with
        | true =>
          rw [hB] at hvs
          have hr := unq_quick s hs t v w hE (by omega) _ rfl i (by omega) h34 hi _ rfl hTB h92' h10' _ rfl hvs
          rw [hq]
          have hst : strOfNums (((bytesOf s).drop 1).take i) = s.extract 1 (i + 1) := by
            rw [← strOf_bytes (s.extract 1 (i + 1)), bytes_pre s 1 (i + 1) (by omega), List.drop_take]
            rfl
          show Calls _ _ _ _ fun e w' => e = .returned (unqOk (strOfNums (((bytesOf s).drop 1).take i)) (s.extract (i + 2) s.size)) ∧ _
          rw [hst]
          exact hr
        | false =>
          rw [hB] at hvs
          exact unq_loopc s hs t v w hE (by omega) _ rfl i (by omega) h34 hi _ rfl hTB h92' h10' _ rfl hvs
      · exact unq_loopb s hs t v w hE (by omega) _ rfl i (by omega) h34 hi _ rfl hTB h92' (by simpa using h10)
    · exact unq_loopa s hs t v w hE (by omega) _ rfl i (by omega) h34 hi _ rfl hTB (by simpa using h92)
  rw [if_neg h34]
  exact unq_other s hs t v w hE (by omega) _ rfl i (by omega) hi (by simpa using h96) (by simpa using h34) (by simpa using h39)


theorem err_below {w W : World} {t : TypeId} {v : Value} (h : ErrAt w t v) (hb : Below w.heap.size w W) : ErrAt W t v := by
  unfold ErrAt at *
  rw [← h]
  exact hb.cell (p := ⟨0, 0, none⟩) (World.block_lt_of_cell? w _ h)
theorem tabs_below {w W : World} {a b : Nat} (h : Lib.Utf8Tabs a b w) (hb : Below w.heap.size w W) : Lib.Utf8Tabs a b W := by
  refine ⟨fun c hc => ?_, fun i hi => ⟨?_, ?_⟩⟩
  · have h1 := h.1 c hc; rw [← h1]; exact hb.cell (p := ⟨a, c, none⟩) (World.block_lt_of_cell? w _ h1)
  · have h1 := (h.2 i hi).1; rw [← h1]; exact hb.cell (p := ⟨b, 2 * i, none⟩) (World.block_lt_of_cell? w _ h1)
  · have h1 := (h.2 i hi).2; rw [← h1]; exact hb.cell (p := ⟨b, 2 * i + 1, none⟩) (World.block_lt_of_cell? w _ h1)
end Go.Proofs.YtlfmgidpdmmpkaaGreatDoor

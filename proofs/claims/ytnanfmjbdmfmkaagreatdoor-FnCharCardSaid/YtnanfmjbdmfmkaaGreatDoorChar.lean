/- A literal of a character: what the reference says of it and what the package reads, in plain numbers, and the calls over them. -/
import Derived.Test.YtnanfmjbdmfmkaaGreatDoorValid
import Derived.Test.YtnanfmjbdmfmkaaGreatDoorUqAny
import Derived.Test.YtnanfmjbdmfmkaaGreatDoorEscape
import Derived.Test.YtnanfmjbdmfmkaaGreatDoorFirst
import Derived.Test.YtnanfmjbdmfmkaaGreatDoorLit
import Derived.Test.YtnanfmjbdmfmkaaGreatDoorShelf
namespace Go.Proofs.YtnanfmjbdmfmkaaGreatDoor
open Go Go.RowKit Go.Proofs.YtnanfmjbdmfmkaaGreatDoorW.PrintWords Ps
set_option linter.unusedVariables false
set_option linter.unusedSimpArgs false

theorem decN_le (n b0 b1 b2 b3 : Nat) (hn : 1 ≤ n) : (Lib.decodeN n b0 b1 b2 b3).2 ≤ n := by
  unfold Lib.decodeN
  repeat' split
  all_goals (simp only []; omega)
theorem dec_width (s : ByteArray) (h : 0 < s.size) : (Utf8.decode s 0).2 ≤ s.size := by
  rw [Lib.decode_at]
  exact decN_le _ _ _ _ _ (by omega)
/-- What lies between the quotes. -/
def midS (s : ByteArray) : ByteArray := s.extract 1 (s.size - 1)
theorem midS_size (s : ByteArray) (h : 2 ≤ s.size) : (midS s).size = s.size - 2 := by unfold midS; rw [ByteArray.size_extract]; omega
/-- The first character between two quotes, as the reference says. -/
def firstF (s : ByteArray) : Int × Int × Bool :=
  if s.size < 3 then (0, 0, false)
  else if bt s 0 ≠ 39 then (0, 0, false)
  else if bt s ((s.size : Int) - 1) ≠ 39 then (0, 0, false)
  else if bt (midS s) 0 = 92 then (match escF 39 ((bytesOf (midS s)).drop 1) with | none => (0, 1, false) | some x => (x.1, x.2.2 + 1, true))
  else ((rnS (midS s)).1, (rnS (midS s)).2, decide (0 < (((rnS (midS s)).2 : Nat) : Int)) && ((((rnS (midS s)).1 : Nat) : Int) != 10) && ((((rnS (midS s)).1 : Nat) : Int) != 39))
def decI (s : ByteArray) : Int × Nat := (((Lib.decodeGo s).1 : Int), (Lib.decodeGo s).2)
/-- The number that the package reads. -/
def litF (s : ByteArray) : Option Int := if s.size < 2 then none else (ucF (decI (midS s)) 39 (midS s)).map (·.1)

theorem first_any (s : ByteArray) (hs : s.size ≤ 4096) (w : World) : Calls Tryz.prog 10 #[.string s] w fun e w' => e = .returned (triple (firstF s).1 (firstF s).2.1 (firstF s).2.2) ∧ Below w.heap.size w w' := by
  unfold firstF
  by_cases h3 : s.size < 3
  · rw [if_pos h3]
    exact (first_short s h3 w).mono fun e w' h => ⟨h.1, same_below h.2⟩
  rw [if_neg h3]
  by_cases q0 : bt s 0 ≠ 39
  · rw [if_pos q0]
    exact (first_open s (by omega) (by rw [bne_iff_ne]; exact q0) w).mono fun e w' h => ⟨h.1, same_below h.2⟩
  rw [if_neg q0]
  have q0' : (bt s 0 != 39) = false := by rw [bne_eq_false_iff_eq]; exact Decidable.not_not.1 q0
  by_cases q1 : bt s ((s.size : Int) - 1) ≠ 39
  · rw [if_pos q1]
    exact (first_shut s (by omega) hs q0' (by rw [bne_iff_ne]; exact q1) w).mono fun e w' h => ⟨h.1, same_below h.2⟩
  rw [if_neg q1]
  have q1' : (bt s ((s.size : Int) - 1) != 39) = false := by rw [bne_eq_false_iff_eq]; exact Decidable.not_not.1 q1
  have hz := midS_size s (by omega)
  by_cases e : bt (midS s) 0 = 92
  · rw [if_pos e]
    have hu : bytesOf ((midS s).extract 1 (midS s).size) = (bytesOf (midS s)).drop 1 := bytes_extract (midS s) 1 (by omega)
    have hus : ((midS s).extract 1 (midS s).size).size ≤ 4096 := by rw [ByteArray.size_extract]; omega
    have hc : ∀ W, Calls Tryz.prog 18 #[.string ((midS s).extract 1 (midS s).size), .int .u8 39] W fun e w' => e = .returned (escVal (escF 39 ((bytesOf (midS s)).drop 1))) ∧ Below W.heap.size W w' := fun W => by
      rw [← hu]; exact esc_any _ 39 (Or.inl rfl) hus W
    cases hE : escF 39 ((bytesOf (midS s)).drop 1) with
    | none =>
      rw [hE] at hc
      exact first_esc s (midS s) _ (by omega) hs q0' q1' rfl rfl (by omega) (by rw [e]; rfl) 0 0 false (by omega) w (fun W _ => hc W)
    | some x =>
      rw [hE] at hc
      obtain ⟨v, m, n⟩ := x
      have hf := esc_facts 39 (Or.inl rfl) _ v n m hE
      have hh := first_esc s (midS s) _ (by omega) hs q0' q1' rfl rfl (by omega) (by rw [e]; rfl) v n m (by omega) w (fun W _ => hc W)
      rw [decide_eq_true (show 0 < n by omega)] at hh
      exact hh
  · rw [if_neg e]
    have hc : ∀ W, Below w.heap.size w W → Calls Tryz.prog 11 #[.string (midS s)] W fun e w' => e = .returned (.tuple #[.int .i64 (rnS (midS s)).1, .int .i64 (rnS (midS s)).2]) ∧ Below W.heap.size W w' := fun W _ => (runeOf_any (midS s) W).mono fun e w' h => ⟨h.1, Drawn0.below h.2⟩
    obtain ⟨r1, h1⟩ : ∃ r : Int, (((rnS (midS s)).1 : Nat) : Int) = r := ⟨_, rfl⟩
    obtain ⟨r2, h2⟩ : ∃ r : Int, (((rnS (midS s)).2 : Nat) : Int) = r := ⟨_, rfl⟩
    rw [h1, h2] at hc ⊢
    have hh := first_rune s (midS s) (by omega) hs q0' q1' rfl (by omega) (by rw [beq_eq_false_iff_ne]; exact e) r1 r2 w hc
    exact hh

theorem dec_le (s : ByteArray) : (Lib.decodeGo s).1 ≤ 2147483647 := by
  unfold Lib.decodeGo
  split
  · decide
  · exact decode_le s 0
theorem uc_bound (dec : Int × Nat) (hd0 : 0 ≤ dec.1) (hd1 : dec.1 ≤ 2147483647) (T : ByteArray) (x : Int) (b : Bool) (r : ByteArray) (h : ucF dec 39 T = some (x, b, r)) : 0 ≤ x ∧ x ≤ 2147483647 := by
  unfold ucF at h
  by_cases h0 : T.size = 0
  · rw [if_pos h0] at h; simp at h
  rw [if_neg h0] at h
  by_cases h1 : bt T 0 = 39
  · rw [if_pos h1] at h; simp at h
  rw [if_neg h1] at h
  by_cases h2 : 128 ≤ bt T 0
  · rw [if_pos h2] at h
    simp only [Option.some.injEq, Prod.mk.injEq] at h
    omega
  rw [if_neg h2] at h
  have hr := bt_range T 0
  by_cases h3 : bt T 0 ≠ 92
  · rw [if_pos h3] at h
    simp only [Option.some.injEq, Prod.mk.injEq] at h
    omega
  rw [if_neg h3, uc_esc 39 (Or.inl rfl)] at h
  cases he : escF 39 ((bytesOf T).drop 1) with
  | none => rw [he] at h; simp at h
  | some y =>
    obtain ⟨v, m, n⟩ := y
    rw [he] at h
    have hf := esc_facts 39 (Or.inl rfl) _ v n m he
    simp only [Option.map_some, Option.some.injEq, Prod.mk.injEq, turnE] at h
    have := hf.2.2.2.2.1
    unfold badR at this
    omega
theorem lit_bound (s : ByteArray) (x : Int) (h : litF s = some x) : 0 ≤ x ∧ x ≤ 2147483647 := by
  unfold litF at h
  by_cases h2 : s.size < 2
  · rw [if_pos h2] at h; simp at h
  rw [if_neg h2] at h
  cases hu : ucF (decI (midS s)) 39 (midS s) with
  | none => rw [hu] at h; simp at h
  | some y =>
    obtain ⟨v, m, n⟩ := y
    rw [hu] at h
    simp only [Option.map_some, Option.some.injEq] at h
    subst h
    exact uc_bound _ (by unfold decI; simp only []; omega) (by unfold decI; have := dec_le (midS s); simp only []; omega) _ _ _ _ hu

/-- The calls: UnquoteChar of what lies between the quotes, MakeFromLiteral, Literal. -/
theorem uq_mid (s : ByteArray) (hs : s.size ≤ 4096) (t : TypeId) (v : Value) (w : World) (hE : ErrAt w t v) (hT : Lib.Utf8Tabs 6 7 w) :
    Calls Tryz.prog 29 #[.string (midS s), .int .u8 39] w fun e w' => e = .returned (uqVal t v (ucF (decI (midS s)) 39 (midS s))) ∧ Below w.heap.size w w' := by
  have hm : (midS s).size ≤ 4096 := by unfold midS; rw [ByteArray.size_extract]; omega
  by_cases h0 : (midS s).size = 0
  · unfold ucF
    rw [if_pos h0]
    exact (uq_empty (midS s) 39 t v w hE h0).mono fun e w' h => ⟨h.1, same_below h.2⟩
  · refine uq_any (midS s) 39 (Or.inl rfl) t v w hE hm (Lib.decodeGo (midS s)).1 (Lib.decodeGo (midS s)).2 ?_ (fun _ => Tryz.utf8_DecodeRuneInString (midS s) w hT)
    unfold Lib.decodeGo
    rw [if_neg h0]
    exact dec_width (midS s) (by omega)
theorem mfl_char (s : ByteArray) (hs : s.size ≤ 4096) (t : TypeId) (v : Value) (w : World) (hE : ErrAt w t v) (hT : Lib.Utf8Tabs 6 7 w) :
    Calls Tryz.prog 13 #[.string s, .int .i64 8, .int .u64 0] w fun e w' => e = .returned (match litF s with | none => unkVal | some x => .iface 67 (.int .i64 x)) ∧ Below w.heap.size w w' := by
  cases hl : litF s with
  | none =>
    unfold litF at hl
    by_cases h2 : s.size < 2
    · exact (mfl_char_short s h2 w).mono fun e w' h => ⟨h.1, same_below h.2⟩
    · rw [if_neg h2] at hl
      have hu := uq_mid s hs t v w hE hT
      cases hc : ucF (decI (midS s)) 39 (midS s) with
      | none => rw [hc] at hu; exact mfl_char_no s (midS s) (by omega) hs rfl t v w hu
      | some y => rw [hc] at hl; simp at hl
  | some x =>
    have hb := lit_bound s x hl
    unfold litF at hl
    by_cases h2 : s.size < 2
    · rw [if_pos h2] at hl; simp at hl
    · rw [if_neg h2] at hl
      have hu := uq_mid s hs t v w hE hT
      cases hc : ucF (decI (midS s)) 39 (midS s) with
      | none => rw [hc] at hl; simp at hl
      | some y =>
        obtain ⟨y1, y2, y3⟩ := y
        rw [hc] at hl hu
        simp only [Option.map_some, Option.some.injEq] at hl
        subst hl
        exact mfl_char_ok s (midS s) (by omega) hs rfl t v y1 y2 y3 w (by unfold wrap64; omega) hu
theorem err_below {w W : World} {t : TypeId} {v : Value} (h : ErrAt w t v) (hb : Below w.heap.size w W) : ErrAt W t v := by
  unfold ErrAt at *
  rw [← h]
  exact hb.cell (p := ⟨0, 0, none⟩) (World.block_lt_of_cell? w _ h)
theorem tabs_below {w W : World} {a b : Nat} (h : Lib.Utf8Tabs a b w) (hb : Below w.heap.size w W) : Lib.Utf8Tabs a b W := by
  refine ⟨fun c hc => ?_, fun i hi => ⟨?_, ?_⟩⟩
  · have h1 := h.1 c hc; rw [← h1]; exact hb.cell (p := ⟨a, c, none⟩) (World.block_lt_of_cell? w _ h1)
  · have h1 := (h.2 i hi).1; rw [← h1]; exact hb.cell (p := ⟨b, 2 * i, none⟩) (World.block_lt_of_cell? w _ h1)
  · have h1 := (h.2 i hi).2; rw [← h1]; exact hb.cell (p := ⟨b, 2 * i + 1, none⟩) (World.block_lt_of_cell? w _ h1)
theorem lit_none (s : ByteArray) (hs : s.size ≤ 4096) (hl : litF s = none) (t : TypeId) (v : Value) (w : World) (hE : ErrAt w t v) (hT : Lib.Utf8Tabs 6 7 w) :
    Calls Tryz.prog 6 #[.string s, .int .i64 3] w fun e w' => e = .returned toldUnknown ∧ Below w.heap.size w w' :=
  literal_unknown s w (fun W hb => by have := mfl_char s hs t v W (err_below hE hb) (tabs_below hT hb); rw [hl] at this; exact this)
theorem lit_some (s : ByteArray) (hs : s.size ≤ 4096) (x : Int) (hl : litF s = some x) (t : TypeId) (v : Value) (w : World) (hE : ErrAt w t v) (hT : Lib.Utf8Tabs 6 7 w) :
    Calls Tryz.prog 6 #[.string s, .int .i64 3] w fun e w' => ∃ A c, e = .returned (toldInt false (.slice A (wordList x).length c)) ∧ UV w' w.heap.size (.slice A (wordList x).length c) (wordList x) ∧ Below w.heap.size w w' := by
  have hb := lit_bound s x hl
  exact literal_int s x hb.1 (by omega) w (fun W hb => by have := mfl_char s hs t v W (err_below hE hb) (tabs_below hT hb); rw [hl] at this; exact this)

/-- The plain law: where the reference says a first character, the package reads its number. -/
theorem char_yes (s : ByteArray) (hv : VT s) (v n : Int) (h : firstF s = (v, n, true)) : litF s = some v := by
  unfold firstF at h
  by_cases h3 : s.size < 3
  · rw [if_pos h3] at h; simp at h
  rw [if_neg h3] at h
  by_cases q0 : bt s 0 ≠ 39
  · rw [if_pos q0] at h; simp at h
  rw [if_neg q0] at h
  by_cases q1 : bt s ((s.size : Int) - 1) ≠ 39
  · rw [if_pos q1] at h; simp at h
  rw [if_neg q1] at h
  have hz := midS_size s (by omega)
  unfold litF
  rw [if_neg (by omega)]
  unfold ucF
  rw [if_neg (show ¬ (midS s).size = 0 by omega)]
  by_cases e : bt (midS s) 0 = 92
  · rw [if_pos e] at h
    rw [if_neg (by omega), if_neg (by omega), if_neg (fun k => k e), uc_esc 39 (Or.inl rfl)]
    cases hE : escF 39 ((bytesOf (midS s)).drop 1) with
    | none => rw [hE] at h; simp at h
    | some x =>
      rw [hE] at h
      simp only [Prod.mk.injEq] at h
      simp only [Option.map_some, turnE, h.1]
  · rw [if_neg e] at h
    simp only [Prod.mk.injEq, Bool.and_eq_true, decide_eq_true_eq, bne_iff_ne] at h
    obtain ⟨h1, h2, ⟨h4, h5⟩, h6⟩ := h
    by_cases c : 128 ≤ bt (midS s) 0
    · rw [if_neg (by omega), if_pos c]
      show some (((Lib.decodeGo (midS s)).1 : Nat) : Int) = some v
      rw [dec_rn (midS s) (by omega) (by omega), h1]
    · have hb := bn_bt (midS s) 0
      have hr : rnS (midS s) = (bn (midS s) 0, 1) := by
        unfold rnS rnN
        rw [if_neg (by omega), if_pos (by omega)]
      rw [hr] at h1 h6
      simp only [] at h1 h6
      rw [if_neg (by omega), if_neg c, if_pos e]
      show some (bt (midS s) 0) = some v
      rw [← hb, h1]

/-- Where there are quotes and no first character, the package reads none, but for a newline. -/
theorem char_no (s : ByteArray) (hv : VT s) (h2 : 2 ≤ s.size) (q0 : bt s 0 = 39) (q1 : bt s ((s.size : Int) - 1) = 39) (h10 : ¬ (2 < s.size ∧ bt s 1 = 10)) (h : (firstF s).2.2 = false) : litF s = none := by
  unfold litF
  rw [if_neg (by omega)]
  have hz := midS_size s h2
  unfold ucF
  by_cases h3 : s.size < 3
  · rw [if_pos (by omega)]; rfl
  rw [if_neg (show ¬ (midS s).size = 0 by omega)]
  unfold firstF at h
  rw [if_neg h3, if_neg (fun k => k q0), if_neg (fun k => k q1)] at h
  by_cases e : bt (midS s) 0 = 92
  · rw [if_pos e] at h
    rw [if_neg (by omega), if_neg (by omega), if_neg (fun k => k e), uc_esc 39 (Or.inl rfl)]
    cases hE : escF 39 ((bytesOf (midS s)).drop 1) with
    | none => rfl
    | some x => rw [hE] at h; simp at h
  · rw [if_neg e] at h
    have hm0 : bt (midS s) 0 = bt s 1 := bt_cut s 1 (s.size - 1) 0 (by omega) (by omega)
    by_cases c39 : bt (midS s) 0 = 39
    · rw [if_pos c39]; rfl
    rw [if_neg c39]
    have hb := bn_bt (midS s) 0
    -- the character at the front is one
    have hS := vt_step s hv (by omega)
    have hr0 : rnS s = (39, 1) := by
      have hb0 := bn_bt s 0
      unfold rnS rnN
      rw [if_neg (by omega), if_pos (by omega)]
      congr 1
      omega
    rw [hr0] at hS
    obtain ⟨_, hV1⟩ := hS
    simp only [] at hV1
    have hz1 := size_cut s 1
    have hS1 := (vt_step _ hV1 (by omega)).1
    have hcut : rnS (midS s) = rnS (s.extract 1 s.size) := by
      unfold rnS at hS1 ⊢
      have hsz : (s.extract 1 s.size).size = (midS s).size + 1 := by omega
      rw [hsz] at hS1 ⊢
      have same : ∀ i : Nat, i < (midS s).size → bn (s.extract 1 s.size) i = bn (midS s) i := by
        intro i hi
        unfold bn
        rw [show bt (s.extract 1 s.size) i = bt s (1 + i : Nat) from bt_cut s 1 s.size i (by omega) (by omega), show bt (midS s) i = bt s (1 + i : Nat) from bt_cut s 1 (s.size - 1) i (by omega) (by omega)]
      have last : ∀ i : Nat, (midS s).size = i → bn (s.extract 1 s.size) i < 128 := by
        intro i hi
        unfold bn
        rw [show bt (s.extract 1 s.size) i = bt s (1 + i : Nat) from bt_cut s 1 s.size i (by omega) (by omega)]
        have : ((1 + i : Nat) : Int) = (s.size : Int) - 1 := by omega
        rw [this, q1]
        decide
      have s0 := same 0 (by omega)
      rw [show bn (s.extract 1 s.size) 0 = bn (midS s) 0 from s0] at hS1 ⊢
      exact rn_cut _ _ _ _ _ _ _ _ (by omega) (fun h => same 1 h) (fun h => last 1 h) (fun h => same 2 h) (fun h => last 2 h) (fun h => same 3 h) (fun h => last 3 h) hS1
    rw [← hcut] at hS1
    exfalso
    rw [decide_eq_true (show 0 < (((rnS (midS s)).2 : Nat) : Int) by omega), Bool.true_and] at h
    by_cases c : 128 ≤ bt (midS s) 0
    · have hge := (rn_le (midS s).size (bn (midS s) 0) (bn (midS s) 1) (bn (midS s) 2) (bn (midS s) 3)).2.2.1 (by omega) hS1
      have hge2 : 128 ≤ (rnS (midS s)).1 := hge
      have e1 : ((((rnS (midS s)).1 : Nat) : Int) != 10) = true := by rw [bne_iff_ne]; omega
      have e2 : ((((rnS (midS s)).1 : Nat) : Int) != 39) = true := by rw [bne_iff_ne]; omega
      rw [e1, e2] at h
      simp at h
    · have hr : rnS (midS s) = (bn (midS s) 0, 1) := by
        unfold rnS rnN
        rw [if_neg (by omega), if_pos (by omega)]
      rw [hr] at h
      simp only [hb] at h
      have e1 : (bt (midS s) 0 != 10) = true := by rw [bne_iff_ne]; omega
      have e2 : (bt (midS s) 0 != 39) = true := by rw [bne_iff_ne]; omega
      rw [e1, e2] at h
      simp at h
end Go.Proofs.YtnanfmjbdmfmkaaGreatDoor

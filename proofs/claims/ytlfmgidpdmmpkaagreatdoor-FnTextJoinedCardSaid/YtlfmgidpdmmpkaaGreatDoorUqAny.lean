/- strconv.UnquoteChar joined: one contract for every text, the quote 39 or 34. -/
import Derived.Test.YtlfmgidpdmmpkaaGreatDoorUq
import Derived.Lib.IndexBytes
namespace Go.Proofs.YtlfmgidpdmmpkaaGreatDoor
open Go Go.RowKit Go.Proofs.YtlfmgidpdmmpkaaGreatDoorW.PrintWords Ps
set_option linter.unusedVariables false
set_option linter.unusedSimpArgs false

/-- What UnquoteChar reads: the character, whether it is of several bytes, the rest. dec is what the decoder gives. -/
def ucF (dec : Int × Nat) (q : Int) (T : ByteArray) : Option (Int × Bool × ByteArray) :=
  if T.size = 0 then none
  else if bt T 0 = q then none
  else if 128 ≤ bt T 0 then some (dec.1, true, T.extract dec.2 T.size)
  else if bt T 0 ≠ 92 then some (bt T 0, false, T.extract 1 T.size)
  else (ucEsc q ((bytesOf T).drop 1)).map fun x => (x.1, x.2.1, T.extract (x.2.2 + 1).toNat T.size)
theorem extract_two (s : ByteArray) (a b : Nat) : (s.extract a s.size).extract b (s.extract a s.size).size = s.extract (a + b) s.size := by
  have hz : (s.extract a s.size).size = s.size - a := by rw [ByteArray.size_extract]; omega
  rw [hz, ByteArray.extract_extract]
  congr 1
  omega
theorem bytes_extract (s : ByteArray) (a : Nat) (h : a ≤ s.size) : bytesOf (s.extract a s.size) = (bytesOf s).drop a := by
  unfold bytesOf
  rw [Lib.extract_to_end, List.map_drop]
theorem Drawn0.below {w w' : World} (h : Drawn0 w w') : Below w.heap.size w w' := by
  obtain ⟨n, rfl⟩ := h.out
  exact pw_below_drewN (Below.refl _ _) n
theorem same_below {w w' : World} (h : w' = w) : Below w.heap.size w w' := by subst h; exact Below.refl _ _


set_option maxHeartbeats 4000000 in
theorem uq_esc (s : ByteArray) (q : Int) (hq : q = 39 ∨ q = 34) (t : TypeId) (v : Value) (w : World) (hE : ErrAt w t v) (hs : s.size ≤ 4096) (h0 : 0 < s.size) (hb : bt s 0 = 92) :
    Calls Tryz.prog 26 #[.string s, .int .u8 q] w fun e w' => e = .returned (uqVal t v ((ucEsc q ((bytesOf s).drop 1)).map fun x => (x.1, x.2.1, s.extract (x.2.2 + 1).toNat s.size))) ∧ w' = w := by
  have hq92 : ((92 : Int) == q) = false := by rw [beq_eq_false_iff_ne]; omega
  by_cases h1 : 1 < s.size
  · have hd : (bytesOf s).drop 1 = bt s 1 :: (bytesOf s).drop (1 + 1) := drop_bytes s 1 h1
    obtain ⟨S, hS⟩ : ∃ S, s.extract 2 s.size = S := ⟨_, rfl⟩
    have hSz : S.size = s.size - 2 := by rw [← hS, ByteArray.size_extract]; omega
    have hbS : (bytesOf s).drop 2 = bytesOf S := by rw [← hS, bytes_extract s 2 (by omega)]
    have hlS : (bytesOf S).length = S.size := bytesOf_length S
    have hx : ∀ n : Nat, S.extract n S.size = s.extract (2 + n) s.size := by intro n; rw [← hS]; exact extract_two s 2 n
    have hr := bt_range s 1
    rw [hd, show (1 + 1 : Nat) = 2 by rfl, hbS]

    by_cases c97 : bt s 1 = 97
    · rw [ucEsc_some (v := 7) (by rw [c97]; rfl)]
      exact uq_e97 s q t v w hE h1 hs hq92 hb c97
    by_cases c98 : bt s 1 = 98
    · rw [ucEsc_some (v := 8) (by rw [c98]; rfl)]
      exact uq_e98 s q t v w hE h1 hs hq92 hb c98
    by_cases c102 : bt s 1 = 102
    · rw [ucEsc_some (v := 12) (by rw [c102]; rfl)]
      exact uq_e102 s q t v w hE h1 hs hq92 hb c102
    by_cases c110 : bt s 1 = 110
    · rw [ucEsc_some (v := 10) (by rw [c110]; rfl)]
      exact uq_e110 s q t v w hE h1 hs hq92 hb c110
    by_cases c114 : bt s 1 = 114
    · rw [ucEsc_some (v := 13) (by rw [c114]; rfl)]
      exact uq_e114 s q t v w hE h1 hs hq92 hb c114
    by_cases c116 : bt s 1 = 116
    · rw [ucEsc_some (v := 9) (by rw [c116]; rfl)]
      exact uq_e116 s q t v w hE h1 hs hq92 hb c116
    by_cases c118 : bt s 1 = 118
    · rw [ucEsc_some (v := 11) (by rw [c118]; rfl)]
      exact uq_e118 s q t v w hE h1 hs hq92 hb c118
    by_cases c92 : bt s 1 = 92
    · rw [ucEsc_some (v := 92) (by rw [c92]; rfl)]
      exact uq_e92 s q t v w hE h1 hs hq92 hb c92
    have hl : letter (bt s 1) = none := by
      unfold letter
      rw [if_neg c97, if_neg c98, if_neg c102, if_neg c110, if_neg c114, if_neg c116, if_neg c118, if_neg c92]
    rw [ucEsc_none hl]
    unfold ucRest
    by_cases c120 : bt s 1 = 120
    · rw [if_pos c120]
      by_cases hn : S.size < 2
      · rw [if_pos (by rw [hlS]; exact hn)]
        exact uq_h120_short s q t v w hE S hS hn h1 hs hq92 hb c120
      · rw [if_neg (by rw [hlS]; exact hn)]
        have hh := uq_h120 s q t v w hE S hS (by omega) h1 hs hq92 hb c120
        rw [hx 2] at hh
        refine hh.mono fun e w' he => ⟨?_, he.2⟩
        rw [he.1]
        congr 2
        cases hexGo 0 (List.take 2 (bytesOf S)) with
        | none => rfl
        | some r =>
          simp only [Option.bind_some]
          rfl
    rw [if_neg c120]
    by_cases c117 : bt s 1 = 117
    · rw [if_pos c117]
      by_cases hn : S.size < 4
      · rw [if_pos (by rw [hlS]; exact hn)]
        exact uq_h117_short s q t v w hE S hS hn h1 hs hq92 hb c117
      · rw [if_neg (by rw [hlS]; exact hn)]
        have hh := uq_h117 s q t v w hE S hS (by omega) h1 hs hq92 hb c117
        rw [hx 4] at hh
        refine hh.mono fun e w' he => ⟨?_, he.2⟩
        rw [he.1]
        congr 2
        cases hexGo 0 (List.take 4 (bytesOf S)) with
        | none => rfl
        | some r =>
          simp only [Option.bind_some]
          split <;> rfl
    rw [if_neg c117]
    by_cases c85 : bt s 1 = 85
    · rw [if_pos c85]
      by_cases hn : S.size < 8
      · rw [if_pos (by rw [hlS]; exact hn)]
        exact uq_h85_short s q t v w hE S hS hn h1 hs hq92 hb c85
      · rw [if_neg (by rw [hlS]; exact hn)]
        have hh := uq_h85 s q t v w hE S hS (by omega) h1 hs hq92 hb c85
        rw [hx 8] at hh
        refine hh.mono fun e w' he => ⟨?_, he.2⟩
        rw [he.1]
        congr 2
        cases hexGo 0 (List.take 8 (bytesOf S)) with
        | none => rfl
        | some r =>
          simp only [Option.bind_some]
          split <;> rfl
    rw [if_neg c85]
    by_cases co : 48 ≤ bt s 1 ∧ bt s 1 ≤ 55
    · rw [if_pos co]
      have hcc : bt s 1 = 48 ∨ bt s 1 = 49 ∨ bt s 1 = 50 ∨ bt s 1 = 51 ∨ bt s 1 = 52 ∨ bt s 1 = 53 ∨ bt s 1 = 54 ∨ bt s 1 = 55 := by omega
      by_cases hn : S.size < 2
      · rw [if_pos (by rw [hlS]; exact hn)]
        rcases hcc with c | c | c | c | c | c | c | c
        · exact uq_o48_short s q t v w hE S hS hn h1 hs hq92 hb c
        · exact uq_o49_short s q t v w hE S hS hn h1 hs hq92 hb c
        · exact uq_o50_short s q t v w hE S hS hn h1 hs hq92 hb c
        · exact uq_o51_short s q t v w hE S hS hn h1 hs hq92 hb c
        · exact uq_o52_short s q t v w hE S hS hn h1 hs hq92 hb c
        · exact uq_o53_short s q t v w hE S hS hn h1 hs hq92 hb c
        · exact uq_o54_short s q t v w hE S hS hn h1 hs hq92 hb c
        · exact uq_o55_short s q t v w hE S hS hn h1 hs hq92 hb c
      · rw [if_neg (by rw [hlS]; exact hn)]
        rcases hcc with c | c | c | c | c | c | c | c
        · have hh := uq_o48 s q t v w hE S hS (by omega) h1 hs hq92 hb c
          rw [hx 2] at hh
          refine hh.mono fun e w' he => ⟨?_, he.2⟩
          rw [he.1, c, show (48 : Int) - 48 = 0 by rfl]
          congr 2
          cases octGo 0 (List.take 2 (bytesOf S)) with
          | none => rfl
          | some r =>
            simp only [Option.bind_some]
            split <;> rfl
        · have hh := uq_o49 s q t v w hE S hS (by omega) h1 hs hq92 hb c
          rw [hx 2] at hh
          refine hh.mono fun e w' he => ⟨?_, he.2⟩
          rw [he.1, c, show (49 : Int) - 48 = 1 by rfl]
          congr 2
          cases octGo 1 (List.take 2 (bytesOf S)) with
          | none => rfl
          | some r =>
            simp only [Option.bind_some]
            split <;> rfl
        · have hh := uq_o50 s q t v w hE S hS (by omega) h1 hs hq92 hb c
          rw [hx 2] at hh
          refine hh.mono fun e w' he => ⟨?_, he.2⟩
          rw [he.1, c, show (50 : Int) - 48 = 2 by rfl]
          congr 2
          cases octGo 2 (List.take 2 (bytesOf S)) with
          | none => rfl
          | some r =>
            simp only [Option.bind_some]
            split <;> rfl
        · have hh := uq_o51 s q t v w hE S hS (by omega) h1 hs hq92 hb c
          rw [hx 2] at hh
          refine hh.mono fun e w' he => ⟨?_, he.2⟩
          rw [he.1, c, show (51 : Int) - 48 = 3 by rfl]
          congr 2
          cases octGo 3 (List.take 2 (bytesOf S)) with
          | none => rfl
          | some r =>
            simp only [Option.bind_some]
            split <;> rfl
        · have hh := uq_o52 s q t v w hE S hS (by omega) h1 hs hq92 hb c
          rw [hx 2] at hh
          refine hh.mono fun e w' he => ⟨?_, he.2⟩
          rw [he.1, c, show (52 : Int) - 48 = 4 by rfl]
          congr 2
          cases octGo 4 (List.take 2 (bytesOf S)) with
          | none => rfl
          | some r =>
            simp only [Option.bind_some]
            split <;> rfl
        · have hh := uq_o53 s q t v w hE S hS (by omega) h1 hs hq92 hb c
          rw [hx 2] at hh
          refine hh.mono fun e w' he => ⟨?_, he.2⟩
          rw [he.1, c, show (53 : Int) - 48 = 5 by rfl]
          congr 2
          cases octGo 5 (List.take 2 (bytesOf S)) with
          | none => rfl
          | some r =>
            simp only [Option.bind_some]
            split <;> rfl
        · have hh := uq_o54 s q t v w hE S hS (by omega) h1 hs hq92 hb c
          rw [hx 2] at hh
          refine hh.mono fun e w' he => ⟨?_, he.2⟩
          rw [he.1, c, show (54 : Int) - 48 = 6 by rfl]
          congr 2
          cases octGo 6 (List.take 2 (bytesOf S)) with
          | none => rfl
          | some r =>
            simp only [Option.bind_some]
            split <;> rfl
        · have hh := uq_o55 s q t v w hE S hS (by omega) h1 hs hq92 hb c
          rw [hx 2] at hh
          refine hh.mono fun e w' he => ⟨?_, he.2⟩
          rw [he.1, c, show (55 : Int) - 48 = 7 by rfl]
          congr 2
          cases octGo 7 (List.take 2 (bytesOf S)) with
          | none => rfl
          | some r =>
            simp only [Option.bind_some]
            split <;> rfl
    rw [if_neg co]
    by_cases c39 : bt s 1 = 39
    · rw [if_pos (Or.inl c39), c39]
      by_cases hcq : (39 : Int) = q
      · rw [if_pos hcq]
        exact uq_q39 s q t v w hE h1 hs hq92 hb c39 (by subst hcq; rfl)
      · rw [if_neg hcq]
        exact uq_q39_no s q t v w hE h1 hs hq92 hb c39 (by rw [bne_iff_ne]; exact hcq)
    by_cases c34 : bt s 1 = 34
    · rw [if_pos (Or.inr c34), c34]
      by_cases hcq : (34 : Int) = q
      · rw [if_pos hcq]
        exact uq_q34 s q t v w hE h1 hs hq92 hb c34 (by subst hcq; rfl)
      · rw [if_neg hcq]
        exact uq_q34_no s q t v w hE h1 hs hq92 hb c34 (by rw [bne_iff_ne]; exact hcq)
    rw [if_neg (by omega)]
    have nb : ∀ k : Int, bt s 1 ≠ k → (bt s 1 == k) = false := fun k h => by rw [beq_eq_false_iff_ne]; exact h
    exact uq_other s q t v w hE h1 hs hq92 hb (nb _ c97) (nb _ c98) (nb _ c102) (nb _ c110) (nb _ c114) (nb _ c116) (nb _ c118) (nb _ c120) (nb _ c117) (nb _ c85) (nb _ (by omega)) (nb _ (by omega)) (nb _ (by omega)) (nb _ (by omega)) (nb _ (by omega)) (nb _ (by omega)) (nb _ (by omega)) (nb _ (by omega)) (nb _ c92) (nb _ c39) (nb _ c34)
  · rw [drop_bytes_end s 1 h1]
    exact uq_lone s q t v w hE (by omega) hq92 hb

/-- UnquoteChar at every text. -/
theorem uq_any (s : ByteArray) (q : Int) (hq : q = 39 ∨ q = 34) (t : TypeId) (v : Value) (w : World) (hE : ErrAt w t v) (hs : s.size ≤ 4096) (r n : Nat) (hn : n ≤ s.size) (hd : 128 ≤ bt s 0 → Calls Tryz.prog 90 #[.string s] w fun e w' => e = .returned (.tuple #[.int .i32 r, .int .i64 n]) ∧ Below w.heap.size w w') :
    Calls Tryz.prog 26 #[.string s, .int .u8 q] w fun e w' => e = .returned (uqVal t v (ucF ((r : Int), n) q s)) ∧ Below w.heap.size w w' := by
  unfold ucF
  by_cases h0 : s.size = 0
  · rw [if_pos h0]
    exact (uq_empty s q t v w hE h0).mono fun e w' h => ⟨h.1, same_below h.2⟩
  rw [if_neg h0]
  by_cases hb : bt s 0 = q
  · rw [if_pos hb]
    have hbb : (bt s 0 == q) = true := by rw [hb]; exact beq_self_eq_true q
    rcases hq with rfl | rfl
    · exact (uq_quote s _ t v w hE (by omega) hbb rfl).mono fun e w' h => ⟨h.1, same_below h.2⟩
    · exact (uq_quote34 s _ t v w hE (by omega) hbb rfl rfl).mono fun e w' h => ⟨h.1, same_below h.2⟩
  rw [if_neg hb]
  have hbb : (bt s 0 == q) = false := by rw [beq_eq_false_iff_ne]; exact hb
  by_cases hw : 128 ≤ bt s 0
  · rw [if_pos hw]
    exact uq_wide s q t v w hE (by omega) hs hbb hw r n hn (hd hw)
  rw [if_neg hw]
  by_cases h92 : bt s 0 = 92
  · rw [if_neg (fun k => k h92)]
    exact (uq_esc s q hq t v w hE hs (by omega) h92).mono fun e w' h => ⟨h.1, same_below h.2⟩
  · rw [if_pos h92]
    exact (uq_plain s q t v w hE (by omega) hs hbb (by omega) (by rw [bne_iff_ne]; exact h92)).mono fun e w' h => ⟨h.1, Drawn0.below h.2⟩
end Go.Proofs.YtlfmgidpdmmpkaaGreatDoor

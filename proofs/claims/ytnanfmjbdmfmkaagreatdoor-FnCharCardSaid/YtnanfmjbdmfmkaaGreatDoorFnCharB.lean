/- The walk of the law on literals of characters: the way where the reference says a character. -/
import Derived.Test.YtnanfmjbdmfmkaaGreatDoorFnCharA
import Derived.Deep.RegionHeld3
namespace Go.Proofs.YtnanfmjbdmfmkaaGreatDoor
open Go Go.RowKit Go.Proofs.YtnanfmjbdmfmkaaGreatDoorW.PrintWords Ps
set_option linter.unusedVariables false
set_option linter.unusedSimpArgs false

/-- What the region of the last test keeps: the literal's cells, and that its words stay. -/
structure KeepY (w : World) (g : Nat) (x : Int) (A : Option Addr) (c n : Nat) (W : World) : Prop where
  below : Below w.heap.size w W
  uv : UV W (w.heap.size) (.slice A (wordList x).length c) (wordList x)
  lo : w.heap.size ≤ g
  hi : g < W.heap.size
  cell : ∀ i, W.cell? ⟨g, i, none⟩ = (#[.int .i64 3, .bool false, .string { data := #[] }, .bool false, .slice A n c, .slice none 0 0, .bool false, .slice none 0 0, .slice none 0 0] : Array Value)[i]?
variable {w W W' : World} {g : Nat} {x : Int} {A : Option Addr} {c n : Nat}
theorem KeepY.step (h : KeepY w g x A c n W) (hb : Below W.heap.size W W') : KeepY w g x A c n W' :=
  ⟨h.below.trans (hb.mono h.below.size), h.uv.below hb, h.lo, Nat.lt_of_lt_of_le h.hi hb.size, fun i => (hb.cell (p := ⟨g, i, none⟩) h.hi).trans (h.cell i)⟩
abbrev SK (w : World) (g : Nat) (x : Int) (A : Option Addr) (c n : Nat) (W : World) : Prop := W.cell? ⟨g, 0, none⟩ = some (.int .i64 3) ∧ W.cell? ⟨g, 1, none⟩ = some (.bool false) ∧ W.cell? ⟨g, 2, none⟩ = some (.string { data := #[] }) ∧ W.cell? ⟨g, 3, none⟩ = some (.bool false) ∧ W.cell? ⟨g, 4, none⟩ = some (.slice A n c) ∧ W.cell? ⟨g, 5, none⟩ = some (.slice none 0 0) ∧ W.cell? ⟨g, 6, none⟩ = some (.bool false) ∧ W.cell? ⟨g, 7, none⟩ = some (.slice none 0 0) ∧ W.cell? ⟨g, 8, none⟩ = some (.slice none 0 0) ∧ Aside0 (KeepY w g x A c n W)
theorem SK.mk (h : KeepY w g x A c n W) : SK w g x A c n W := ⟨h.cell 0, h.cell 1, h.cell 2, h.cell 3, h.cell 4, h.cell 5, h.cell 6, h.cell 7, h.cell 8, ⟨h⟩⟩
theorem SK.out (h : SK w g x A c n W) : KeepY w g x A c n W := h.2.2.2.2.2.2.2.2.2.out
theorem SK.step (hb : Below W.heap.size W W') (h : SK w g x A c n W) : SK w g x A c n W' := SK.mk (h.out.step hb)
theorem SK.dr (h : SK w g x A c n W) : SK w g x A c n W.drew := SK.step (below_drew (Below.refl _ _)) h

def R4 (x : Int) (m : Nat) (W : World) (A1 : Option Addr) (c1 : Nat) (A2 : Option Addr) (c2 : Nat) : Prop := (trimL (digs [x])).length = m ∧ m ≤ c1 ∧ 1 ≤ c2 ∧ Kd.C (Kd.int .i64) W A1 m (trimL (digs [x])) ∧ Kd.C (Kd.int .i64) W A2 1 [1]
theorem hof (x : Int) (h : 0 ≤ x ∧ x < 9223372036854775808) (m : Nat) (hm : (trimL (digs [x])).length = m) (W : World) :
    Calls Tryz.prog 8 #[.int .i64 x] W fun e w' => ∃ A1 c1 A2 c2, e = .returned (.agg #[.bool false, .slice A1 m c1, .slice A2 1 c2]) ∧ Aside0 (R4 x m w' A1 c1 A2 c2) ∧ Below W.heap.size W w' := by
  subst hm
  refine (of64_any x h.1 h.2 W).mono ?_
  rintro e w' ⟨A1, c1, A2, c2, he, hc1, hc2, r1, r2, hb⟩
  exact ⟨A1, c1, A2, c2, he, ⟨rfl, hc1, hc2, r1, r2⟩, hb⟩
theorem hii (w : World) (g : Nat) (x : Int) (h : 0 ≤ x ∧ x < 9223372036854775808) (A : Option Addr) (c n m : Nat) (hn : (wordList x).length = n) (W : World) (A1 : Option Addr) (c1 : Nat) (A2 : Option Addr) (c2 : Nat)
    (hk : SK w g x A c n W) (hr : Aside0 (R4 x m W A1 c1 A2 c2)) :
    Calls Tryz.prog 7 #[.agg #[.int .i64 3, .bool false, .string { data := #[] }, .bool false, .slice A n c, .slice none 0 0, .bool false, .slice none 0 0, .slice none 0 0], .agg #[.bool false, .slice A1 m c1, .slice A2 1 c2]] W fun e w' => e = .returned (.bool true) ∧ Below W.heap.size W w' := by
  subst hn
  obtain ⟨⟨rfl, hc1, hc2, r1, r2⟩⟩ := hr
  have hv := hk.out.uv
  exact isInt_lit x h.1 h.2 A c W (Kd.V_reads' hv).2.2 (Kd.V_reads' hv).2.1 A1 c1 A2 c2 hc1 hc2 r1 r2

set_option maxRecDepth 100000 in
set_option maxHeartbeats 16000000 in
theorem fc_yes (s : ByteArray) (h60 : s.size ≤ 60) (w : World) (hV : CallB 4 #[.string s] w (.bool true)) (x : Int) (x0 : 0 ≤ x) (x1 : x ≤ 2147483647) (hC : CallB 5 #[.string s] w (.tuple #[.int .i64 x, .bool true]))
    (hL : ∀ W, Below w.heap.size w W → Calls Tryz.prog 6 #[.string s, .int .i64 3] W fun e w' => ∃ A c, e = .returned (toldInt false (.slice A (wordList x).length c)) ∧ UV w' W.heap.size (.slice A (wordList x).length c) (wordList x) ∧ Below W.heap.size W w') :
    Calls Tryz.prog 3 #[.string s] w fun e w' => e = .returned (.bool true) ∧ Below w.heap.size w w' := by
  have h7 : (s.size : Int) ≤ 60 := by omega
  have HV := Aside0.mk hV
  have HC := Aside0.mk hC
  have HL := Aside0.mk hL
  have HX := Aside0.mk (show 0 ≤ x ∧ x < 9223372036854775808 from ⟨x0, by omega⟩)
  clear hV hC hL h60
  go_enter Tryz.func3, Tryz.ntmps3
  go_wp2_with fail
  refine (HV.out _ (Below.refl _ _)).mono ?_
  rintro e w1 ⟨rfl, hbel⟩
  have HB := Aside0.mk hbel
  clear hbel
  go_wp2_with fail
  refine (HC.out _ HB.out).mono ?_
  rintro e w2 ⟨rfl, hbel⟩
  have HB2 := Aside0.mk (HB.out.trans (hbel.mono HB.out.size))
  clear hbel HB
  go_wp2_with fail
  refine (HL.out _ HB2.out).mono ?_
  rintro e w3 ⟨A, c, rfl, hu, hbel⟩
  have hb3 : Below w.heap.size w w3 := HB2.out.trans (hbel.mono HB2.out.size)
  have hsz := hb3.size
  have hu2 := hu.lower HB2.out.size
  obtain ⟨n, hn⟩ : ∃ n, (wordList x).length = n := ⟨_, rfl⟩
  have HN := Aside0.mk hn
  have HU := Aside0.mk (And.intro hb3 hu2)
  clear hbel HB2 HL HC HV hu hb3 hu2
  unfold toldInt
  rw [hn]
  clear hn
  obtain ⟨m, hm⟩ : ∃ m, (trimL (digs [x])).length = m := ⟨_, rfl⟩
  have HOF := Aside0.mk (hof x HX.out m hm)
  have HII := Aside0.mk (fun W => hii w w3.heap.size x HX.out A c n m HN.out W)
  clear hm
  go_wp2
  have HK := Aside0.mk (SK.mk (w := w) (g := w3.heap.size) (x := x) (A := A) (c := c) (n := n) (W := w3.alloc (.cells #[.int .i64 3, .bool false, .string { data := #[] }, .bool false, .slice A n c, .slice none 0 0, .bool false, .slice none 0 0, .slice none 0 0] 29)) ⟨below_alloc HU.out.1 _, HU.out.2.below (below_alloc (Below.refl _ _) _), HU.out.1.size, by simp, fun i => cn rfl⟩)
  go_cut [2] (fun v2 wc => v2 = .bool true ∧ Aside0 (Below w.heap.size w wc))
  case first =>
    go_region_held3 (fun W => W.cell? ⟨w3.heap.size, 0, none⟩ = some (.int .i64 3) ∧ W.cell? ⟨w3.heap.size, 1, none⟩ = some (.bool false) ∧ W.cell? ⟨w3.heap.size, 2, none⟩ = some (.string { data := #[] }) ∧ W.cell? ⟨w3.heap.size, 3, none⟩ = some (.bool false) ∧ W.cell? ⟨w3.heap.size, 4, none⟩ = some (.slice A n c) ∧ W.cell? ⟨w3.heap.size, 5, none⟩ = some (.slice none 0 0) ∧ W.cell? ⟨w3.heap.size, 6, none⟩ = some (.bool false) ∧ W.cell? ⟨w3.heap.size, 7, none⟩ = some (.slice none 0 0) ∧ W.cell? ⟨w3.heap.size, 8, none⟩ = some (.slice none 0 0) ∧ Aside0 (KeepY w w3.heap.size x A c n W))
      (first | exact SK.step (by with_reducible assumption) (by with_reducible assumption) | exact SK.dr HK.out | exact HK.out)
      (first | (go_at_call 8; (with_reducible refine (HOF.out _).mono ?_); rintro e w' ⟨A1, c1, A2, c2, rfl, hr4, hb⟩; have hsi := SK.step hb (by with_reducible assumption); obtain ⟨hcl, hfr⟩ := bcell hb; have hz := hb.size; (try simp only [World.size_alloc, World.size_drew] at hz); (try replace hz := Nat.lt_of_succ_le hz)) | (go_at_call 7; (with_reducible refine (HII.out _ _ _ _ _ (by with_reducible assumption) (by with_reducible assumption)).mono ?_); rintro e w' ⟨rfl, hb⟩; have hsi := SK.step hb (by with_reducible assumption); obtain ⟨hcl, hfr⟩ := bcell hb; have hz := hb.size; (try simp only [World.size_alloc, World.size_drew] at hz); (try replace hz := Nat.lt_of_succ_le hz)))
    all_goals (go_wp2_with fail; go_meet)
    all_goals exact ⟨rfl, ⟨(SK.out hsi).below⟩⟩
  case rest =>
    obtain ⟨rfl, HW⟩ := hcut
    go_wp2
    go_ret
    exact ⟨rfl, HW.out⟩

/-- The law on literals of characters answers true at every text. -/
theorem fnChar_any (s : ByteArray) (hm : s.size ≤ maxLen) (t : TypeId) (v : Value) (w : World) (hE : ErrAt w t v) (hT : Lib.Utf8Tabs 6 7 w) :
    Calls Tryz.prog 3 #[.string s] w fun e w' => e = .returned (.bool true) ∧ Below w.heap.size w w' := by
  by_cases hl : 60 < s.size
  · exact fc_long s hl hm w
  have hs : s.size ≤ 4096 := by omega
  have hval : ∃ r : Bool, CallB 4 #[.string s] w (.bool r) ∧ (r = true → VT s) := by
    obtain ⟨r, hr⟩ := valid_total s.size s (Nat.le_refl _)
    exact ⟨r, fun W _ => (spec_Valid.calls _ s r W hr).mono fun e w' h => ⟨h.1, Drawn0.below h.2⟩, fun h => by subst h; exact ⟨_, hr⟩⟩
  obtain ⟨r, hV, hvt⟩ := hval
  cases r with
  | false => exact fc_invalid s (by omega) w hV
  | true =>
    have hvt := hvt rfl
    have hF : CallB 10 #[.string s] w (triple (firstF s).1 (firstF s).2.1 (firstF s).2.2) := fun W _ => first_any s hs W
    obtain ⟨⟨f1, f2, f3⟩, hf⟩ : ∃ p, firstF s = p := ⟨_, rfl⟩
    rw [hf] at hF
    have hC : CallB 5 #[.string s] w (.tuple #[.int .i64 f1, .bool (f3 && (f2 == (s.size : Int) - 2))]) := fun W hb => charOf_any s hs f1 f2 f3 W (hF W hb)
    have hK : ∃ k, LitK s k w ∧ (litF s = none → k = 0) := by
      cases hl : litF s with
      | none =>
        refine ⟨0, fun W hb => (lit_none s hs hl t v W (err_below hE hb) (tabs_below hT hb)).mono fun e w' h => ⟨false, none, 0, 0, h.1, h.2⟩, fun _ => rfl⟩
      | some x =>
        refine ⟨3, fun W hb => (lit_some s hs x hl t v W (err_below hE hb) (tabs_below hT hb)).mono ?_, fun h => by simp at h⟩
        rintro e w' ⟨A, c, he, _, hb⟩
        exact ⟨false, A, _, c, he, hb⟩
    obtain ⟨k, hK, hk0⟩ := hK
    cases f3 with
    | true =>
      have hy := char_yes s hvt f1 f2 hf
      have hbd := lit_bound s f1 hy
      have h3 : 3 ≤ s.size := by
        apply Decidable.byContradiction
        intro h
        unfold firstF at hf
        rw [if_pos (by omega)] at hf
        simp at hf
      by_cases hn : f2 = (s.size : Int) - 2
      · rw [show (true && (f2 == (s.size : Int) - 2)) = true by rw [hn]; simp] at hC
        exact fc_yes s (by omega) w hV f1 hbd.1 hbd.2 hC (fun W hb => lit_some s hs f1 hy t v W (err_below hE hb) (tabs_below hT hb))
      · rw [show (true && (f2 == (s.size : Int) - 2)) = false by rw [Bool.true_and, beq_eq_false_iff_ne]; exact hn] at hC
        cases b0 : (bt s 0 != 39) with
        | true => exact fc_open s (by omega) (by omega) w hV f1 hC k hK b0
        | false =>
          cases b1 : (bt s ((s.size : Int) - 1) != 39) with
          | true => exact fc_shut s (by omega) (by omega) w hV f1 hC k hK b0 b1
          | false =>
            cases b2 : (bt s 1 == 10) with
            | true => exact fc_newline s (by omega) (by omega) w hV f1 hC k hK (by omega) b0 b1 b2
            | false => exact fc_first s (by omega) (by omega) w hV f1 hC k hK f1 f2 hF b0 b1 b2
    | false =>
      rw [Bool.false_and] at hC
      by_cases h2 : s.size < 2
      · have hl0 : litF s = none := by unfold litF; rw [if_pos h2]
        obtain rfl := hk0 hl0
        exact fc_tiny s h2 w hV f1 hC hK
      cases b0 : (bt s 0 != 39) with
      | true => exact fc_open s (by omega) (by omega) w hV f1 hC k hK b0
      | false =>
        cases b1 : (bt s ((s.size : Int) - 1) != 39) with
        | true => exact fc_shut s (by omega) (by omega) w hV f1 hC k hK b0 b1
        | false =>
          by_cases h10 : 2 < s.size ∧ bt s 1 = 10
          · exact fc_newline s (by omega) (by omega) w hV f1 hC k hK (by omega) b0 b1 (by rw [h10.2]; rfl)
          · have hl0 : litF s = none := char_no s hvt (by omega) (by rw [bne_eq_false_iff_eq] at b0; exact b0) (by rw [bne_eq_false_iff_eq] at b1; exact b1) h10 (by rw [hf])
            obtain rfl := hk0 hl0
            exact fc_none s (by omega) (by omega) w hV f1 hC hK f1 f2 hF b0 b1 (fun h => by rw [beq_eq_false_iff_ne]; intro h1; exact h10 ⟨by omega, h1⟩)
end Go.Proofs.YtnanfmjbdmfmkaaGreatDoor

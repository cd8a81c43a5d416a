/- A text as a literal, byte by byte, and what the package's loop reads of it (for FnTextJoined). Plain words alone. -/
import Derived.Test.YtlfmgidpdmmpkaaGreatDoorTextJ
namespace Go.Proofs.YtlfmgidpdmmpkaaGreatDoor
open Go Go.RowKit Go.Proofs.YtlfmgidpdmmpkaaGreatDoorW.PrintWords
set_option linter.unusedVariables false
set_option linter.unusedSimpArgs false

def hd (d : Int) : Int := if d < 10 then 48 + d else 87 + d
theorem dgt_hd (d : Int) (h0 : 0 ≤ d) (h1 : d < 16) : dgt (hd d) = d := by
  unfold hd
  by_cases a : d < 10
  · rw [if_pos a]; unfold dgt; rw [if_pos (by omega)]; omega
  · rw [if_neg a]; unfold dgt; rw [if_neg (by omega), if_pos (by omega)]; omega
theorem dgt_oct (d : Int) (h0 : 0 ≤ d) (h1 : d < 8) : dgt (48 + d) = d := by
  unfold dgt; rw [if_pos (by omega)]; omega
/-- One byte of a literal's text: k says how it is written. -/
def quB (k c : Int) : List Int :=
  if k % 4 = 0 ∧ 32 ≤ c ∧ c < 127 ∧ c ≠ 34 ∧ c ≠ 92 then [c]
  else if k % 4 = 1 then [92, 48 + c / 64, 48 + c / 8 % 8, 48 + c % 8]
  else if k % 4 = 2 ∧ c < 128 then [92, 117, 48, 48, hd (c / 16), hd (c % 16)]
  else if k % 4 = 3 ∧ c < 128 then [92, 85, 48, 48, 48, 48, 48, 48, hd (c / 16), hd (c % 16)]
  else [92, 120, hd (c / 16), hd (c % 16)]
theorem quB_len (k c : Int) : 1 ≤ (quB k c).length ∧ (quB k c).length ≤ 10 := by
  unfold quB
  repeat' split
  all_goals simp
theorem quB_ascii (k c : Int) (h0 : 0 ≤ c) (h1 : c ≤ 255) : ∀ x ∈ quB k c, 0 ≤ x ∧ x < 128 := by
  have hh : ∀ d : Int, 0 ≤ d → d < 16 → 0 ≤ hd d ∧ hd d < 128 := by intro d a b; unfold hd; split <;> omega
  have ha := hh (c / 16) (by omega) (by omega)
  have hb := hh (c % 16) (by omega) (by omega)
  unfold quB
  repeat' split
  all_goals
    intro x hx
    simp only [List.mem_cons, List.not_mem_nil, or_false] at hx
    omega
theorem qt_oct (c : Int) (h0 : 0 ≤ c) (h1 : c ≤ 255) (V : List Int) : escF 34 ((48 + c / 64) :: (48 + c / 8 % 8) :: (48 + c % 8) :: V) = some (c, true, 3) := by
  have hl : letter (48 + c / 64) = none := by unfold letter; repeat' split
                                              all_goals first | omega | rfl
  rw [escF_none hl]
  unfold escRest
  rw [if_neg (by omega), if_neg (by omega), if_neg (by omega), if_neg (by omega), if_neg (by simp)]
  have e : escGo 8 0 ((48 + c / 64) :: List.take 2 ((48 + c / 8 % 8) :: (48 + c % 8) :: V)) = some c := by
    show escGo 8 0 [48 + c / 64, 48 + c / 8 % 8, 48 + c % 8] = some c
    rw [escGo_cons, escGo_cons, escGo_cons, dgt_oct (c / 64) (by omega) (by omega), dgt_oct (c / 8 % 8) (by omega) (by omega), dgt_oct (c % 8) (by omega) (by omega), if_neg (by omega), if_neg (by omega), if_neg (by omega)]
    show some _ = some c
    congr 1
    omega
  rw [e]
  simp only [Option.bind_some]
  rw [if_neg (by omega)]
theorem hex_two (v c : Int) (h0 : 0 ≤ c) (h1 : c ≤ 255) (hv : v = 0) : escGo 16 v [hd (c / 16), hd (c % 16)] = some c := by
  subst hv
  rw [escGo_cons, escGo_cons, dgt_hd (c / 16) (by omega) (by omega), dgt_hd (c % 16) (by omega) (by omega), if_neg (by omega), if_neg (by omega)]
  show some _ = some c
  congr 1
  omega
theorem qt_x (c : Int) (h0 : 0 ≤ c) (h1 : c ≤ 255) (V : List Int) : escF 34 (120 :: hd (c / 16) :: hd (c % 16) :: V) = some (c, true, 3) := by
  rw [escF_none (show letter 120 = none by rfl)]
  unfold escRest
  rw [if_neg (by omega), if_pos rfl, if_neg (by simp)]
  rw [show List.take 2 (hd (c / 16) :: hd (c % 16) :: V) = [hd (c / 16), hd (c % 16)] from rfl, hex_two 0 c h0 h1 rfl]
  rfl
theorem qt_u (c : Int) (h0 : 0 ≤ c) (h1 : c < 128) (V : List Int) : escF 34 (117 :: 48 :: 48 :: hd (c / 16) :: hd (c % 16) :: V) = some (c, false, 5) := by
  rw [escF_none (show letter 117 = none by rfl)]
  unfold escRest
  rw [if_neg (by omega), if_neg (by omega), if_pos rfl, if_neg (by simp)]
  rw [show List.take 4 (48 :: 48 :: hd (c / 16) :: hd (c % 16) :: V) = 48 :: 48 :: [hd (c / 16), hd (c % 16)] from rfl, escGo_cons, escGo_cons, if_neg (by decide), if_neg (by decide), hex_two _ c h0 (by omega) (by decide)]
  simp only [Option.bind_some]
  rw [if_neg (by unfold badR; omega)]
theorem qt_U (c : Int) (h0 : 0 ≤ c) (h1 : c < 128) (V : List Int) : escF 34 (85 :: 48 :: 48 :: 48 :: 48 :: 48 :: 48 :: hd (c / 16) :: hd (c % 16) :: V) = some (c, false, 9) := by
  rw [escF_none (show letter 85 = none by rfl)]
  unfold escRest
  rw [if_neg (by omega), if_neg (by omega), if_neg (by omega), if_pos rfl, if_neg (by simp)]
  rw [show List.take 8 (48 :: 48 :: 48 :: 48 :: 48 :: 48 :: hd (c / 16) :: hd (c % 16) :: V) = 48 :: 48 :: 48 :: 48 :: 48 :: 48 :: [hd (c / 16), hd (c % 16)] from rfl, escGo_cons, escGo_cons, escGo_cons, escGo_cons, escGo_cons, escGo_cons]
  rw [if_neg (by decide), if_neg (by decide), if_neg (by decide), if_neg (by decide), if_neg (by decide), if_neg (by decide), hex_two _ c h0 (by omega) (by decide)]
  simp only [Option.bind_some]
  rw [if_neg (by unfold badR; omega)]

theorem first_bt (T : ByteArray) (c : Int) (V : List Int) (h : bytesOf T = c :: V) : 0 < T.size ∧ bt T 0 = c ∧ (bytesOf T).drop 1 = V := by
  have h1 := congrArg List.length h
  rw [bytes_len, List.length_cons] at h1
  refine ⟨by omega, ?_, by rw [h]; rfl⟩
  have h2 := bytes_cons T (by omega)
  rw [h] at h2
  exact (List.cons.inj h2).1.symm
/-- An escape at the front. -/
theorem loop_esc (f : Nat) (T : ByteArray) (acc V : List Int) (v n : Int) (m : Bool) (h : bytesOf T = 92 :: V) (hE : escF 34 V = some (v, m, n)) (hc : chunkU v (decide (5 ≤ n)) = [v]) :
    uqLoop (f + 1) T acc = uqLoop f (T.extract (n + 1).toNat T.size) (acc ++ [v]) := by
  obtain ⟨h0, h1, h2⟩ := first_bt T 92 V h
  have hu : ucF (decT T) 34 T = some (v, decide (5 ≤ n), T.extract (n + 1).toNat T.size) := by
    unfold ucF
    rw [if_neg (by omega), if_neg (by omega), if_neg (by omega), if_neg (by omega), uc_esc 34 (Or.inr rfl), h2, hE]
    rfl
  rw [uqLoop_succ, if_neg (by omega), if_neg (by omega), if_neg (by omega), hu]
  simp only []
  rw [hc]
/-- One byte of a literal is read as it was written. -/
theorem loop_quB (f : Nat) (T : ByteArray) (acc V : List Int) (k c : Int) (h0 : 0 ≤ c) (h1 : c ≤ 255) (h : bytesOf T = quB k c ++ V) :
    uqLoop (f + 1) T acc = uqLoop f (T.extract (quB k c).length T.size) (acc ++ [c]) := by
  unfold quB at h ⊢
  by_cases a : k % 4 = 0 ∧ 32 ≤ c ∧ c < 127 ∧ c ≠ 34 ∧ c ≠ 92
  · rw [if_pos a] at h ⊢
    obtain ⟨g0, g1, g2⟩ := first_bt T c V h
    have hu : ucF (decT T) 34 T = some (c, false, T.extract 1 T.size) := by
      unfold ucF
      rw [if_neg (by omega), if_neg (by omega), if_neg (by omega), if_pos (by omega), g1]
    rw [uqLoop_succ, if_neg (by omega), if_neg (by omega), if_neg (by omega), hu]
    simp only []
    rw [show chunkU c false = [c] by unfold chunkU; rw [if_pos (Or.inr rfl)]]
    rfl
  rw [if_neg a] at h ⊢
  by_cases b : k % 4 = 1
  · rw [if_pos b] at h ⊢
    exact loop_esc f T acc _ c 3 true h (qt_oct c h0 h1 V) (by unfold chunkU; rw [if_pos (Or.inr (by decide))])
  rw [if_neg b] at h ⊢
  by_cases d : k % 4 = 2 ∧ c < 128
  · rw [if_pos d] at h ⊢
    exact loop_esc f T acc _ c 5 false h (qt_u c h0 d.2 V) (by unfold chunkU; rw [if_pos (Or.inl d.2)])
  rw [if_neg d] at h ⊢
  by_cases e : k % 4 = 3 ∧ c < 128
  · rw [if_pos e] at h ⊢
    exact loop_esc f T acc _ c 9 false h (qt_U c h0 e.2 V) (by unfold chunkU; rw [if_pos (Or.inl e.2)])
  rw [if_neg e] at h ⊢
  exact loop_esc f T acc _ c 3 true h (qt_x c h0 h1 V) (by unfold chunkU; rw [if_pos (Or.inr (by decide))])
/-- A text as a literal without its first quote. -/
def quL : List (Int × Int) → List Int
  | [] => []
  | (k, c) :: l => quB k c ++ quL l
theorem loop_quL : ∀ (l : List (Int × Int)) (f : Nat) (T : ByteArray) (acc : List Int), (∀ x ∈ l, 0 ≤ x.2 ∧ x.2 ≤ 255) → bytesOf T = quL l ++ [34] → T.size < f →
    ∃ r, uqLoop f T acc = some (acc ++ l.map (·.2), r) ∧ r.size = 0 := by
  intro l
  induction l with
  | nil =>
    intro f T acc _ h hf
    obtain ⟨f, rfl⟩ : ∃ g, f = g + 1 := ⟨f - 1, by omega⟩
    obtain ⟨h0, h1, h2⟩ := first_bt T 34 [] h
    have hz := congrArg List.length h
    rw [bytes_len] at hz
    refine ⟨T.extract 1 T.size, ?_, ?_⟩
    · rw [uqLoop_succ, if_neg (by omega), if_pos h1]; simp
    · rw [size_cut]; simp [quL] at hz; omega
  | cons x l ih =>
    obtain ⟨k, c⟩ := x
    intro f T acc hx h hf
    obtain ⟨f, rfl⟩ : ∃ g, f = g + 1 := ⟨f - 1, by omega⟩
    have hc := hx _ (List.mem_cons_self ..)
    have h2 : bytesOf T = quB k c ++ (quL l ++ [34]) := by rw [h, quL, List.append_assoc]
    have hz := congrArg List.length h2
    rw [bytes_len, List.length_append] at hz
    have hq := quB_len k c
    rw [loop_quB f T acc _ k c hc.1 hc.2 h2]
    obtain ⟨r, hr, hr0⟩ := ih f (T.extract (quB k c).length T.size) (acc ++ [c]) (fun x hm => hx x (List.mem_cons_of_mem _ hm)) (by rw [bytes_extract _ _ (by omega), h2, List.drop_left]) (by rw [size_cut]; omega)
    refine ⟨r, ?_, hr0⟩
    rw [hr]
    simp
/-- A text of bytes below 128 is one in UTF-8. -/
theorem vt_low : ∀ (n : Nat) (s : ByteArray), s.size ≤ n → (∀ c ∈ bytesOf s, c < 128) → VT s := by
  intro n
  induction n with
  | zero => intro s h _; exact .none s (by omega)
  | succ n ih =>
    intro s h hc
    by_cases h0 : s.size = 0
    · exact .none s h0
    have hb := bytes_cons s (by omega)
    have hlow : bt s 0 < 128 := hc _ (by rw [hb]; exact List.mem_cons_self ..)
    have hr := rnS_ascii s (by omega) hlow
    refine .some s (by omega) (by rw [hr]; exact Nat.one_pos) ?_
    rw [hr]
    refine ih _ (by rw [size_cut]; show s.size - 1 ≤ n; omega) ?_
    intro c k
    exact hc c (by rw [hb]; exact List.mem_cons_of_mem _ k)
theorem quL_low (l : List (Int × Int)) (h : ∀ x ∈ l, 0 ≤ x.2 ∧ x.2 ≤ 255) : ∀ c ∈ quL l, c < 128 := by
  induction l with
  | nil => intro c hc; simp [quL] at hc
  | cons x l ih =>
    obtain ⟨k, d⟩ := x
    intro c hc
    rw [quL, List.mem_append] at hc
    have hd := h _ (List.mem_cons_self ..)
    rcases hc with hc | hc
    · exact (quB_ascii k d hd.1 hd.2 c hc).2
    · exact ih (fun x hm => h x (List.mem_cons_of_mem _ hm)) c hc
/-- The literal of a text is read as that text. -/
theorem unqF_quot (s : ByteArray) (l : List (Int × Int)) (hl : ∀ x ∈ l, 0 ≤ x.2 ∧ x.2 ≤ 255) (h : bytesOf s = 34 :: (quL l ++ [34])) :
    VT s ∧ bt s 0 ≠ 39 ∧ ∃ r, unqF s = some (l.map (·.2), r) ∧ r.size = 0 := by
  obtain ⟨h0, h1, h2⟩ := first_bt s 34 _ h
  have hz := congrArg List.length h
  rw [bytes_len] at hz
  simp only [List.length_cons, List.length_append, List.length_nil] at hz
  refine ⟨vt_low s.size s (Nat.le_refl _) ?_, by omega, ?_⟩
  · rw [h]
    intro c hc
    simp only [List.mem_cons, List.mem_append, List.not_mem_nil, or_false] at hc
    rcases hc with rfl | hc | rfl
    · decide
    · exact quL_low l hl c hc
    · decide
  · have hS : bytesOf (s.extract 1 s.size) = quL l ++ [34] := by rw [bytes_extract s 1 (by omega), h2]
    obtain ⟨r, hr, hr0⟩ := loop_quL l ((s.extract 1 s.size).size + 1) (s.extract 1 s.size) [] hl hS (by omega)
    refine ⟨r, ?_, hr0⟩
    unfold unqF
    rw [if_neg (by omega), if_neg ?_, if_neg (by omega), if_pos h1, hr]
    · rfl
    · rw [h1]
      intro hix
      have := ixL_none (l := bytesOf (s.extract 1 s.size)) hix
      rw [hS] at this
      exact this (by simp)
end Go.Proofs.YtlfmgidpdmmpkaaGreatDoor

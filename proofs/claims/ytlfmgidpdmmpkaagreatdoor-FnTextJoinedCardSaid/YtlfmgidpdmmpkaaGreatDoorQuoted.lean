/- laws.quoted: its bytes. -/
import Derived.Test.YtlfmgidpdmmpkaaGreatDoorQuot
import Derived.Test.YtlfmgidpdmmpkaaGreatDoorPs0
import Derived.Test.YtlfmgidpdmmpkaaGreatDoorPs1
import Derived.Test.YtlfmgidpdmmpkaaGreatDoorPs2
namespace Go.Proofs.YtlfmgidpdmmpkaaGreatDoor
open Go Go.RowKit Go.Proofs.YtlfmgidpdmmpkaaGreatDoorW.PrintWords Ps
set_option linter.unusedVariables false
set_option linter.unusedSimpArgs false

def hexOK (f : Int) (z : List UInt8) (c : Nat) : Bool := (spec_Hex.f 60 c f).map (fun s => s.data.toList) == some (z ++ [(hd (c / 16 : Nat)).toNat.toUInt8, (hd (c % 16 : Nat)).toNat.toUInt8])
theorem hex2_all : (List.range 256).all (hexOK 2 []) = true := by decide +kernel
theorem hex4_all : (List.range 128).all (hexOK 4 [48, 48]) = true := by decide +kernel
theorem hex8_all : (List.range 128).all (hexOK 8 [48, 48, 48, 48, 48, 48]) = true := by decide +kernel
theorem bytes_app (a b : ByteArray) : bytesOf (a ++ b) = bytesOf a ++ bytesOf b := by unfold bytesOf; simp
theorem hex_k {k : Nat} {c f : Int} {r : ByteArray} (h : spec_Hex.f 60 c f = some r) (hk : 60 ≤ k) : spec_Hex.f k c f = some r := at_rounds (g := fun k => spec_Hex.f k c f) (spec_Hex.mono c f) hk h
theorem hd_nat (d : Nat) (h : d < 16) : (((hd (d : Int)).toNat.toUInt8.toNat : Nat) : Int) = hd d := by
  have : d = 0 ∨ d = 1 ∨ d = 2 ∨ d = 3 ∨ d = 4 ∨ d = 5 ∨ d = 6 ∨ d = 7 ∨ d = 8 ∨ d = 9 ∨ d = 10 ∨ d = 11 ∨ d = 12 ∨ d = 13 ∨ d = 14 ∨ d = 15 := by omega
  rcases this with rfl | rfl | rfl | rfl | rfl | rfl | rfl | rfl | rfl | rfl | rfl | rfl | rfl | rfl | rfl | rfl <;> decide
theorem hex_gen (f : Int) (z : List UInt8) (n : Nat) (hn : n ≤ 256) (h : (List.range n).all (hexOK f z) = true) (c : Int) (h0 : 0 ≤ c) (h1 : c < n) (k : Nat) (hk : 60 ≤ k) :
    ∃ r, spec_Hex.f k c f = some r ∧ bytesOf r = z.map (fun b => (b.toNat : Int)) ++ [hd (c / 16), hd (c % 16)] := by
  obtain ⟨m, rfl⟩ : ∃ m : Nat, c = m := ⟨c.toNat, by omega⟩
  have hm := (List.all_eq_true.1 h) m (List.mem_range.2 (by omega))
  unfold hexOK at hm
  rw [beq_iff_eq] at hm
  cases hr : spec_Hex.f 60 m f with
  | none => rw [hr] at hm; simp at hm
  | some r =>
    rw [hr] at hm
    simp only [Option.map_some, Option.some.injEq] at hm
    refine ⟨r, hex_k hr hk, ?_⟩
    unfold bytesOf
    rw [hm, List.map_append]
    congr 1
    simp only [List.map_cons, List.map_nil]
    rw [hd_nat (m / 16) (by omega), hd_nat (m % 16) (by omega)]
    simp
/-- How the bytes are written: pairs of how and byte. -/
def howAt (how : List Int) (i : Nat) : Int := if i < how.length then rd how i else 0
def pairs (s : ByteArray) (how : List Int) : Nat → Nat → List (Int × Int)
  | _, 0 => []
  | i, d + 1 => (howAt how i, bt s i) :: pairs s how (i + 1) d
theorem pairs_snd (s : ByteArray) (how : List Int) : ∀ (d i : Nat), (pairs s how i d).map (·.2) = (List.range' i d).map (fun j : Nat => bt s j) := by
  intro d
  induction d with
  | zero => intro i; rfl
  | succ d ih => intro i; rw [pairs, List.map_cons, ih, List.range'_succ, List.map_cons]
theorem pairs_all (s : ByteArray) (how : List Int) : (pairs s how 0 s.size).map (·.2) = bytesOf s := by
  rw [pairs_snd]
  apply List.ext_getElem
  · rw [List.length_map, List.length_range', bytes_len]
  · intro i h1 h2
    rw [bytes_at]
    simp
theorem pairs_range (s : ByteArray) (how : List Int) : ∀ (d i : Nat), ∀ x ∈ pairs s how i d, 0 ≤ x.2 ∧ x.2 ≤ 255 := by
  intro d
  induction d with
  | zero => intro i x hx; simp [pairs] at hx
  | succ d ih =>
    intro i x hx
    rw [pairs, List.mem_cons] at hx
    rcases hx with rfl | hx
    · exact bt_range s i
    · exact ih _ x hx
theorem rd_mem {l : List Int} {i : Nat} (h : i < l.length) : rd l i ∈ l := by
  unfold rd
  rw [Int.toNat_natCast, List.getD_eq_getElem?_getD, List.getElem?_eq_getElem h]
  exact List.getElem_mem h
theorem w64b (s : ByteArray) (i : Int) : wrap64 (bt s i) = bt s i := by have := bt_range s i; unfold wrap64; omega
theorem w64s (x : Int) (h0 : 0 ≤ x) (h1 : x < 1000000) : wrap64 x = x := by unfold wrap64; omega
theorem tm4 (k : Int) (h : 0 ≤ k) : Int.tmod k 4 = k % 4 := Int.tmod_eq_emod_of_nonneg h
theorem bytes_nums (l : List Int) (h : ∀ x ∈ l, 0 ≤ x ∧ x ≤ 255) : bytesOf (strOfNums l) = l := by
  unfold bytesOf strOfNums
  simp only [List.map_map]
  have : ∀ x ∈ l, ((fun b : UInt8 => (b.toNat : Int)) ∘ fun x : Int => x.toNat.toUInt8) x = x := by
    intro x hx
    have := h x hx
    simp only [Function.comp]
    rw [show x.toNat.toUInt8.toNat = x.toNat % 256 from rfl]
    omega
  rw [List.map_congr_left this]
  simp
/-- Whether a byte stands as it is. -/
def plainB (k c : Int) : Bool := decide (k % 4 = 0 ∧ 32 ≤ c ∧ c < 127 ∧ c ≠ 34 ∧ c ≠ 92)
theorem q_j1 (k : Nat) (s : ByteArray) (how : List Int) (acc : ByteArray) (i : Nat) (hi : i < s.size) (kk : Int) (hk : 0 ≤ kk) :
    laws_quoted.j1 (k + 1) s how acc i kk s.size i = laws_quoted.j2 k s how acc i kk (bt s i) s.size i (plainB kk (bt s i)) := by
  rw [laws_quoted.j1, if_pos (by omega), if_pos (by omega), tm4 kk hk, w64b]
  generalize bt s i = c
  unfold plainB
  by_cases a : kk % 4 = 0
  · rw [if_pos a]
    by_cases b : c ≥ 32
    · rw [if_pos b]
      by_cases d : c < 127
      · rw [if_pos d]
        by_cases e : c = 34
        · rw [if_pos e, decide_eq_false (by omega)]
        · rw [if_neg e]
          congr 1
          rw [bne, Bool.eq_iff_iff]
          simp
          omega
      · rw [if_neg d, decide_eq_false (by omega)]
    · rw [if_neg b, decide_eq_false (by omega)]
  · rw [if_neg a, decide_eq_false (by omega)]
theorem q_l0 (k : Nat) (s : ByteArray) (how : List Int) (acc : ByteArray) (i : Nat) (hi : i < s.size) :
    laws_quoted.l0 (k + 1) s how acc s.size i = laws_quoted.j1 k s how acc i (howAt how i) s.size i := by
  rw [laws_quoted.l0, if_pos (by omega)]
  unfold howAt
  by_cases a : i < how.length
  · rw [if_pos (by omega), if_pos (by omega), if_pos a]
  · rw [if_neg (by omega), if_neg a]
theorem bytes_one (s : ByteArray) (i : Nat) (hi : i < s.size) : bytesOf (s.extract i (i + 1)) = [bt s i] := by
  rw [bytes_pre s i (i + 1) (by omega), List.drop_take]
  have hl : i < (bytesOf s).length := by rw [bytes_len]; exact hi
  rw [show i + 1 - i = 1 by omega, List.drop_eq_getElem_cons hl, bytes_at]
  rfl
theorem size_of_bytes {a : ByteArray} {l : List Int} (h : bytesOf a = l) : a.size = l.length := by rw [← h, bytes_len]
theorem q_step (k : Nat) (hk : 60 ≤ k) (s : ByteArray) (how : List Int) (hw : ∀ x ∈ how, 0 ≤ x ∧ x ≤ 255) (acc : ByteArray) (ha : acc.size ≤ 1000000) (i : Nat) (hi : i < s.size) (hs : s.size ≤ 1000) :
    ∃ a m, bytesOf a = quB (howAt how i) (bt s i) ∧ k ≤ m ∧ laws_quoted.l0 (k + 5) s how acc s.size i = laws_quoted.l0 m s how (acc ++ a) s.size ((i + 1 : Nat) : Int) := by
  have hkk : 0 ≤ howAt how i := by
    unfold howAt
    by_cases c : i < how.length
    · rw [if_pos c]; exact (hw _ (rd_mem c)).1
    · rw [if_neg c]; omega
  have hc := bt_range s i
  have hi1 : wrap64 ((i : Int) + 1) = ((i + 1 : Nat) : Int) := by rw [w64s _ (by omega) (by omega)]; omega
  rw [q_l0 (k + 4) s how acc i hi, q_j1 (k + 3) s how acc i hi _ hkk]
  generalize howAt how i = kk at *
  unfold plainB quB
  by_cases a : kk % 4 = 0 ∧ 32 ≤ bt s i ∧ bt s i < 127 ∧ bt s i ≠ 34 ∧ bt s i ≠ 92
  · rw [if_pos a, decide_eq_true a]
    refine ⟨s.extract i (i + 1), k + 2, bytes_one s i hi, by omega, ?_⟩
    have hz := size_of_bytes (bytes_one s i hi)
    simp only [List.length_cons, List.length_nil] at hz
    rw [laws_quoted.j2, if_pos rfl, hi1, if_pos (by omega), if_pos (by omega), if_pos (by omega), Int.toNat_natCast, Int.toNat_natCast, if_pos (by omega)]
  · rw [if_neg a, decide_eq_false a, laws_quoted.j2, if_neg (show ¬ (false = true) by decide), tm4 kk hkk]
    generalize hC : bt s i = c at *
    by_cases b : kk % 4 = 1
    · rw [if_pos b, if_pos b]
      simp only [Option.bind_some]
      have e : ([(wrap64 (48 + (wrap64 (Int.tdiv c 64)))) % 256, (wrap64 (48 + (Int.tmod (wrap64 (Int.tdiv c 8)) 8))) % 256, (wrap64 (48 + (Int.tmod c 8))) % 256] : List Int) = [48 + c / 64, 48 + c / 8 % 8, 48 + c % 8] := by
        rw [Int.tdiv_eq_ediv_of_nonneg hc.1, Int.tdiv_eq_ediv_of_nonneg hc.1, Int.tmod_eq_emod_of_nonneg hc.1, w64s (c / 64) (by omega) (by omega), w64s (c / 8) (by omega) (by omega), Int.tmod_eq_emod_of_nonneg (show 0 ≤ c / 8 by omega), w64s (48 + c / 64) (by omega) (by omega), w64s (48 + c / 8 % 8) (by omega) (by omega), w64s (48 + c % 8) (by omega) (by omega)]
        rw [show (48 + c / 64) % 256 = 48 + c / 64 by omega, show (48 + c / 8 % 8) % 256 = 48 + c / 8 % 8 by omega, show (48 + c % 8) % 256 = 48 + c % 8 by omega]
      rw [e]
      have hb : bytesOf (strOfNums [48 + c / 64, 48 + c / 8 % 8, 48 + c % 8]) = [48 + c / 64, 48 + c / 8 % 8, 48 + c % 8] := bytes_nums _ (by
        intro x hx
        simp only [List.mem_cons, List.not_mem_nil, or_false] at hx
        omega)
      have hb2 : bytesOf ((⟨#[92]⟩ : ByteArray) ++ strOfNums [48 + c / 64, 48 + c / 8 % 8, 48 + c % 8]) = [92, 48 + c / 64, 48 + c / 8 % 8, 48 + c % 8] := by rw [bytes_app, hb]; rfl
      have z1 := size_of_bytes hb
      have z2 := size_of_bytes hb2
      simp only [List.length_cons, List.length_nil] at z1 z2
      exact ⟨_, k + 2, hb2, by omega, by rw [if_pos (by omega), if_pos (by omega), hi1]⟩
    · rw [if_neg b, if_neg b]
      by_cases d : kk % 4 = 2 ∧ c < 128
      · rw [if_pos d.1, if_pos d, decide_eq_true d.2, laws_quoted.j3, if_pos rfl]
        obtain ⟨r, hr, hrb⟩ := hex_gen 4 [48, 48] 128 (by omega) hex4_all c hc.1 (by omega) (k + 1) (by omega)
        rw [hr]
        simp only [Option.bind_some]
        have hb2 : bytesOf ((⟨#[92, 117]⟩ : ByteArray) ++ r) = [92, 117, 48, 48, hd (c / 16), hd (c % 16)] := by rw [bytes_app, hrb]; rfl
        have z1 := size_of_bytes hrb
        have z2 := size_of_bytes hb2
        simp only [List.length_cons, List.length_nil, List.length_map, List.length_append] at z1 z2
        exact ⟨_, k + 1, hb2, by omega, by rw [if_pos (by omega), if_pos (by omega), hi1]⟩
      · rw [if_neg d]
        have e3 : (if kk % 4 = 2 then laws_quoted.j3 (k + 2) s how acc kk c s.size i (decide (c < 128)) else laws_quoted.j3 (k + 2) s how acc kk c s.size i false) = laws_quoted.j3 (k + 2) s how acc kk c s.size i false := by
          by_cases f : kk % 4 = 2
          · rw [if_pos f, decide_eq_false (by omega)]
          · rw [if_neg f]
        rw [e3, laws_quoted.j3, if_neg (show ¬ (false = true) by decide), tm4 kk hkk]
        by_cases g : kk % 4 = 3 ∧ c < 128
        · rw [if_pos g.1, if_pos g, decide_eq_true g.2, laws_quoted.j4, if_pos rfl]
          obtain ⟨r, hr, hrb⟩ := hex_gen 8 [48, 48, 48, 48, 48, 48] 128 (by omega) hex8_all c hc.1 (by omega) k (by omega)
          rw [hr]
          simp only [Option.bind_some]
          have hb2 : bytesOf ((⟨#[92, 85]⟩ : ByteArray) ++ r) = [92, 85, 48, 48, 48, 48, 48, 48, hd (c / 16), hd (c % 16)] := by rw [bytes_app, hrb]; rfl
          have z1 := size_of_bytes hrb
          have z2 := size_of_bytes hb2
          simp only [List.length_cons, List.length_nil, List.length_map, List.length_append] at z1 z2
          exact ⟨_, k, hb2, by omega, by rw [if_pos (by omega), if_pos (by omega), hi1]⟩
        · rw [if_neg g]
          have e4 : (if kk % 4 = 3 then laws_quoted.j4 (k + 1) s how acc c s.size i (decide (c < 128)) else laws_quoted.j4 (k + 1) s how acc c s.size i false) = laws_quoted.j4 (k + 1) s how acc c s.size i false := by
            by_cases f : kk % 4 = 3
            · rw [if_pos f, decide_eq_false (by omega)]
            · rw [if_neg f]
          rw [e4, laws_quoted.j4, if_neg (show ¬ (false = true) by decide)]
          obtain ⟨r, hr, hrb⟩ := hex_gen 2 [] 256 (by omega) hex2_all c hc.1 (by omega) k (by omega)
          rw [hr]
          simp only [Option.bind_some]
          have hb2 : bytesOf ((⟨#[92, 120]⟩ : ByteArray) ++ r) = [92, 120, hd (c / 16), hd (c % 16)] := by rw [bytes_app, hrb]; rfl
          have z1 := size_of_bytes hrb
          have z2 := size_of_bytes hb2
          simp only [List.length_cons, List.length_nil, List.length_map, List.length_append] at z1 z2
          exact ⟨_, k, hb2, by omega, by rw [if_pos (by omega), if_pos (by omega), hi1]⟩
theorem quoted_loop (s : ByteArray) (how : List Int) (hs : s.size ≤ 1000) (hw : ∀ x ∈ how, 0 ≤ x ∧ x ≤ 255) : ∀ (d i k : Nat) (acc : ByteArray), i + d = s.size → 5 * d + 70 ≤ k → acc.size + 10 * d ≤ 1000000 →
    ∃ r, laws_quoted.l0 k s how acc s.size i = some r ∧ bytesOf r = bytesOf acc ++ (quL (pairs s how i d) ++ [34]) := by
  intro d
  induction d with
  | zero =>
    intro i k acc h hk ha
    obtain ⟨k, rfl⟩ : ∃ j, k = j + 1 := ⟨k - 1, by omega⟩
    refine ⟨acc ++ (⟨#[34]⟩ : ByteArray), ?_, ?_⟩
    · rw [laws_quoted.l0, if_neg (by omega), if_pos (by omega)]
    · rw [bytes_app]; rfl
  | succ d ih =>
    intro i k acc h hk ha
    obtain ⟨k, rfl⟩ : ∃ j, k = j + 5 := ⟨k - 5, by omega⟩
    obtain ⟨a, m, hb, hm, he⟩ := q_step k (by omega) s how hw acc (by omega) i (by omega) hs
    have hz := size_of_bytes hb
    have hq := quB_len (howAt how i) (bt s i)
    have hza : (acc ++ a).size = acc.size + a.size := by simp
    obtain ⟨r, hr, hrb⟩ := ih (i + 1) m (acc ++ a) (by omega) (by omega) (by omega)
    refine ⟨r, by rw [he, hr], ?_⟩
    rw [hrb, bytes_app, hb, pairs, quL]
    simp only [List.append_assoc]
/-- The literal of a text. -/
theorem quoted_any (s : ByteArray) (how : List Int) (hs : s.size ≤ 1000) (hw : ∀ x ∈ how, 0 ≤ x ∧ x ≤ 255) :
    ∃ r, laws_quoted.f 6000 s how = some r ∧ bytesOf r = 34 :: (quL (pairs s how 0 s.size) ++ [34]) := by
  obtain ⟨r, hr, hb⟩ := quoted_loop s how hs hw s.size 0 6000 (⟨#[34]⟩ : ByteArray) (by omega) (by omega) (by show 1 + 10 * s.size ≤ 1000000; omega)
  exact ⟨r, hr, by rw [hb]; rfl⟩
end Go.Proofs.YtlfmgidpdmmpkaaGreatDoor

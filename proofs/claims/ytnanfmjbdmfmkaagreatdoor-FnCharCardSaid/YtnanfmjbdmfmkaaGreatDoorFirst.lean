/- The reference's first character of a literal. -/
import Derived.Test.YtnanfmjbdmfmkaaGreatDoorB
import Derived.Test.YtnanfmjbdmfmkaaGreatDoorPs0
import Derived.Test.YtnanfmjbdmfmkaaGreatDoorPs1
import Derived.Test.YtnanfmjbdmfmkaaGreatDoorPs2
namespace Go.Proofs.YtnanfmjbdmfmkaaGreatDoor
open Go Go.RowKit Go.Proofs.YtnanfmjbdmfmkaaGreatDoorW.PrintWords Ps
set_option linter.unusedVariables false
set_option linter.unusedSimpArgs false

def triple (v n : Int) (ok : Bool) : Value := .tuple #[.int .i64 v, .int .i64 n, .bool ok]

set_option maxRecDepth 100000 in
set_option maxHeartbeats 2000000 in
theorem first_short (s : ByteArray) (h : s.size < 3) (w : World) :
    Calls Tryz.prog 10 #[.string s] w fun e w' => e = .returned (triple 0 0 false) ∧ w' = w := by
  have h3 : (s.size : Int) < 3 := by omega
  go_enter Tryz.func10, Tryz.ntmps10
  go_wp2
  refine bodyPost_ret (v := triple 0 0 false) (by simp [triple, results, Tryz.results10, go_sem]) rfl ⟨rfl, rfl⟩

set_option maxRecDepth 100000 in
set_option maxHeartbeats 2000000 in
theorem first_open (s : ByteArray) (h : 3 ≤ s.size) (hb : (bt s 0 != 39) = true) (w : World) :
    Calls Tryz.prog 10 #[.string s] w fun e w' => e = .returned (triple 0 0 false) ∧ w' = w := by
  have h3 : 3 ≤ (s.size : Int) := by omega
  have hx : ∀ h : 0 < s.size, ((s[0]'h).toNat : Int) = bt s 0 := bt_at s 0
  have q0 := eq_true (show 0 < s.size by omega)
  go_enter Tryz.func10, Tryz.ntmps10
  go_wp2
  refine bodyPost_ret (v := triple 0 0 false) (by simp [triple, results, Tryz.results10, go_sem]) rfl ⟨rfl, rfl⟩

set_option maxRecDepth 100000 in
set_option maxHeartbeats 2000000 in
theorem first_shut (s : ByteArray) (h : 3 ≤ s.size) (hs : s.size ≤ 4096) (hb : (bt s 0 != 39) = false) (hl : (bt s ((s.size : Int) - 1) != 39) = true) (w : World) :
    Calls Tryz.prog 10 #[.string s] w fun e w' => e = .returned (triple 0 0 false) ∧ w' = w := by
  have h3 : 3 ≤ (s.size : Int) := by omega
  have hx : ∀ h : 0 < s.size, ((s[0]'h).toNat : Int) = bt s 0 := bt_at s 0
  have q0 := eq_true (show 0 < s.size by omega)
  have hn1 : ((s.size : Int) - 1).toNat = s.size - 1 := by omega
  have hy : ∀ q : s.size - 1 < s.size, ((s[s.size - 1]'q).toNat : Int) = bt s ((s.size : Int) - 1) := by
    have := bt_at s ((s.size : Int) - 1)
    intro q
    have h2 := this (by omega)
    simpa [hn1] using h2
  have q1 := eq_true (show s.size - 1 < s.size by omega)
  go_enter Tryz.func10, Tryz.ntmps10
  go_wp2
  refine bodyPost_ret (v := triple 0 0 false) (by simp [triple, results, Tryz.results10, go_sem]) rfl ⟨rfl, rfl⟩

set_option maxRecDepth 100000 in
set_option maxHeartbeats 2000000 in
theorem first_esc (s T U : ByteArray) (h : 3 ≤ s.size) (hs : s.size ≤ 4096) (hb : (bt s 0 != 39) = false) (hl : (bt s ((s.size : Int) - 1) != 39) = false) (hT : s.extract 1 (s.size - 1) = T) (hU : T.extract 1 T.size = U) (hT0 : 0 < T.size) (h92 : (bt T 0 == 92) = true)
    (v n : Int) (m : Bool) (hn : 0 ≤ n ∧ n < 4096) (w : World) (hE : ∀ W, Below w.heap.size w W → Calls Tryz.prog 18 #[.string U, .int .u8 39] W fun e w' => e = .returned (.tuple #[.int .i64 v, .bool m, .int .i64 n]) ∧ Below W.heap.size W w') :
    Calls Tryz.prog 10 #[.string s] w fun e w' => e = .returned (triple v (n + 1) (decide (0 < n))) ∧ Below w.heap.size w w' := by
  have h3 : 3 ≤ (s.size : Int) := by omega
  have hx : ∀ h : 0 < s.size, ((s[0]'h).toNat : Int) = bt s 0 := bt_at s 0
  have q0 := eq_true (show 0 < s.size by omega)
  have hn1 : ((s.size : Int) - 1).toNat = s.size - 1 := by omega
  have hy : ∀ q : s.size - 1 < s.size, ((s[s.size - 1]'q).toNat : Int) = bt s ((s.size : Int) - 1) := by
    have := bt_at s ((s.size : Int) - 1)
    intro q
    have h2 := this (by omega)
    simpa [hn1] using h2
  have q1 := eq_true (show s.size - 1 < s.size by omega)
  have hx2 : ∀ h : 0 < T.size, ((T[0]'h).toNat : Int) = bt T 0 := bt_at T 0
  have q2 := eq_true hT0
  have hT1 : 1 ≤ (T.size : Int) := by omega
  have HE := Aside0.mk hE
  clear hE
  go_enter Tryz.func10, Tryz.ntmps10
  go_wp2_with fail
  refine (HE.out _ (Below.refl _ _)).mono ?_
  rintro e w1 ⟨rfl, hbel⟩
  have HB := Aside0.mk hbel
  clear hbel
  go_wp2
  refine bodyPost_ret (v := triple v (n + 1) (decide (0 < n))) (by simp [triple, results, Tryz.results10, go_sem]) rfl ⟨rfl, HB.out⟩
set_option maxRecDepth 100000 in
set_option maxHeartbeats 2000000 in
theorem first_rune (s T : ByteArray) (h : 3 ≤ s.size) (hs : s.size ≤ 4096) (hb : (bt s 0 != 39) = false) (hl : (bt s ((s.size : Int) - 1) != 39) = false) (hT : s.extract 1 (s.size - 1) = T) (hT0 : 0 < T.size) (h92 : (bt T 0 == 92) = false)
    (v n : Int) (w : World) (hE : ∀ W, Below w.heap.size w W → Calls Tryz.prog 11 #[.string T] W fun e w' => e = .returned (.tuple #[.int .i64 v, .int .i64 n]) ∧ Below W.heap.size W w') :
    Calls Tryz.prog 10 #[.string s] w fun e w' => e = .returned (triple v n (decide (0 < n) && (v != 10) && (v != 39))) ∧ Below w.heap.size w w' := by
  have h3 : 3 ≤ (s.size : Int) := by omega
  have hx : ∀ h : 0 < s.size, ((s[0]'h).toNat : Int) = bt s 0 := bt_at s 0
  have q0 := eq_true (show 0 < s.size by omega)
  have hn1 : ((s.size : Int) - 1).toNat = s.size - 1 := by omega
  have hy : ∀ q : s.size - 1 < s.size, ((s[s.size - 1]'q).toNat : Int) = bt s ((s.size : Int) - 1) := by
    have := bt_at s ((s.size : Int) - 1)
    intro q
    have h2 := this (by omega)
    simpa [hn1] using h2
  have q1 := eq_true (show s.size - 1 < s.size by omega)
  have hx2 : ∀ h : 0 < T.size, ((T[0]'h).toNat : Int) = bt T 0 := bt_at T 0
  have q2 := eq_true hT0
  have hT1 : 1 ≤ (T.size : Int) := by omega
  have HE := Aside0.mk hE
  clear hE
  rcases (Int.lt_or_le 0 n) with c1 | c1 <;> cases c2 : (v != 10) <;> cases c3 : (v != 39)
  all_goals
    go_enter Tryz.func10, Tryz.ntmps10
    go_wp2_with fail
    refine (HE.out _ (Below.refl _ _)).mono ?_
    rintro e w1 ⟨rfl, hbel⟩
    have HB := Aside0.mk hbel
    clear hbel
    go_wp2
    first
      | (refine bodyPost_ret (v := triple v n true) ?_ rfl ⟨?_, HB.out⟩
         · simp [triple, results, Tryz.results10, go_sem]; done
         · simp [triple, c1, c2, c3]; done)
      | (refine bodyPost_ret (v := triple v n false) ?_ rfl ⟨?_, HB.out⟩
         · simp [triple, results, Tryz.results10, go_sem]; done
         · simp [triple, c2, c3]; done)
      | (refine bodyPost_ret (v := triple v n false) ?_ rfl ⟨?_, HB.out⟩
         · simp [triple, results, Tryz.results10, go_sem]; done
         · simp [triple, c2, c3]; omega)

set_option maxRecDepth 100000 in
set_option maxHeartbeats 2000000 in
theorem charOf_any (s : ByteArray) (hs : s.size ≤ 4096) (v n : Int) (ok : Bool) (w : World) (hF : Calls Tryz.prog 10 #[.string s] w fun e w' => e = .returned (triple v n ok) ∧ Below w.heap.size w w') :
    Calls Tryz.prog 5 #[.string s] w fun e w' => e = .returned (.tuple #[.int .i64 v, .bool (ok && (n == (s.size : Int) - 2))]) ∧ Below w.heap.size w w' := by
  have HF := Aside0.mk hF
  clear hF
  cases ok
  all_goals
    go_enter Tryz.func5, Tryz.ntmps5
    go_wp2_with fail
    refine HF.out.mono ?_
    rintro e w1 ⟨rfl, hbel⟩
    have HB := Aside0.mk hbel
    clear hbel
    unfold triple
    go_wp2
    go_ret2
    exact ⟨by simp, HB.out⟩
end Go.Proofs.YtnanfmjbdmfmkaaGreatDoor

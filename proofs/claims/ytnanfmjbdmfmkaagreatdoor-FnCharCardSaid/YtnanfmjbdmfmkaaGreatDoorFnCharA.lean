/- The walk of the law on literals of characters, way by way. -/
import Derived.Test.YtnanfmjbdmfmkaaGreatDoorChar
import Derived.Test.YtnanfmjbdmfmkaaGreatDoorAlive
import Derived.Deep.RegionHeld3
namespace Go.Proofs.YtnanfmjbdmfmkaaGreatDoor
open Go Go.RowKit Go.Proofs.YtnanfmjbdmfmkaaGreatDoorW.PrintWords Ps
set_option linter.unusedVariables false
set_option linter.unusedSimpArgs false

def LitK (s : ByteArray) (k : Int) (w : World) : Prop := ∀ W, Below w.heap.size w W → Calls Tryz.prog 6 #[.string s, .int .i64 3] W fun e w' => ∃ ng A n c, e = .returned (.agg #[.int .i64 k, .bool false, .string ⟨#[]⟩, .bool ng, .slice A n c, .slice none 0 0, .bool false, .slice none 0 0, .slice none 0 0]) ∧ Below W.heap.size W w'
def CallB (f : FuncId) (args : Array Value) (w : World) (v : Value) : Prop := ∀ W, Below w.heap.size w W → Calls Tryz.prog f args W fun e w' => e = .returned v ∧ Below W.heap.size W w'

set_option maxRecDepth 100000 in
set_option maxHeartbeats 4000000 in
theorem fc_long (s : ByteArray) (h : 60 < s.size) (hm : s.size ≤ maxLen) (w : World) :
    Calls Tryz.prog 3 #[.string s] w fun e w' => e = .returned (.bool true) ∧ Below w.heap.size w w' := by
  unfold maxLen at hm
  have h6 : 60 < (s.size : Int) := by omega
  by_cases hz : 2147483647 < (s.size : Int)
  · go_enter Tryz.func3, Tryz.ntmps3
    go_wp2
    go_ret
    exact ⟨rfl, Below.refl _ _⟩
  · have hz2 : (s.size : Int) ≤ 2147483647 := by omega
    clear hz
    go_enter Tryz.func3, Tryz.ntmps3
    go_wp2
    go_ret
    exact ⟨rfl, Below.refl _ _⟩

set_option maxRecDepth 100000 in
set_option maxHeartbeats 4000000 in
theorem fc_invalid (s : ByteArray) (h : s.size ≤ 60) (w : World) (hV : CallB 4 #[.string s] w (.bool false)) :
    Calls Tryz.prog 3 #[.string s] w fun e w' => e = .returned (.bool true) ∧ Below w.heap.size w w' := by
  have h6 : (s.size : Int) ≤ 60 := by omega
  have HV := Aside0.mk hV
  clear hV
  go_enter Tryz.func3, Tryz.ntmps3
  go_wp2_with fail
  refine (HV.out _ (Below.refl _ _)).mono ?_
  rintro e w1 ⟨rfl, hbel⟩
  have HB := Aside0.mk hbel
  clear hbel
  go_wp2
  go_ret
  exact ⟨rfl, HB.out⟩

set_option maxRecDepth 100000 in
set_option maxHeartbeats 4000000 in
theorem fc_tiny (s : ByteArray) (h : s.size < 2) (w : World) (hV : CallB 4 #[.string s] w (.bool true)) (v : Int) (hC : CallB 5 #[.string s] w (.tuple #[.int .i64 v, .bool false])) (hL : LitK s 0 w) :
    Calls Tryz.prog 3 #[.string s] w fun e w' => e = .returned (.bool true) ∧ Below w.heap.size w w' := by
  have h6 : (s.size : Int) < 2 := by omega
  have HV := Aside0.mk hV
  have HC := Aside0.mk hC
  have HL := Aside0.mk hL
  clear hV hC hL
  go_enter Tryz.func3, Tryz.ntmps3
  go_wp2_with fail
  refine (HV.out _ (Below.refl _ _)).mono ?_
  rintro e w1 ⟨rfl, hbel⟩
  have HB := Aside0.mk hbel
  clear hbel
  go_wp2_with fail
  refine (HC.out _ HB.out).mono ?_
  rintro e w2 ⟨rfl, hbel⟩
  have HB2 := Aside0.mk (HB.out.trans (hbel.mono HB.out.size))
  clear hbel HB
  go_wp2_with fail
  refine (HL.out _ HB2.out).mono ?_
  rintro e w3 ⟨ng, A, n, c, rfl, hbel⟩
  have HB3 := Aside0.mk (HB2.out.trans (hbel.mono HB2.out.size))
  clear hbel HB2
  go_wp2_with fail
  refine (alive_any _).mono ?_
  rintro e w4 ⟨rfl, hbel⟩
  have HB4 := Aside0.mk (show Below w.heap.size w w4 from (below_alloc HB3.out _).trans (hbel.mono (below_alloc HB3.out _).size))
  clear hbel
  go_wp2
  go_ret
  exact ⟨rfl, HB4.out⟩
set_option maxRecDepth 100000 in
set_option maxHeartbeats 4000000 in
theorem fc_open (s : ByteArray) (h2 : 2 ≤ s.size) (h60 : s.size ≤ 60) (w : World) (hV : CallB 4 #[.string s] w (.bool true)) (v : Int) (hC : CallB 5 #[.string s] w (.tuple #[.int .i64 v, .bool false])) (k : Int) (hL : LitK s k w) (b0 : (bt s 0 != 39) = true) :
    Calls Tryz.prog 3 #[.string s] w fun e w' => e = .returned (.bool true) ∧ Below w.heap.size w w' := by
  have h6 : 2 ≤ (s.size : Int) := by omega
  have h7 : (s.size : Int) ≤ 60 := by omega
  have HV := Aside0.mk hV
  have HC := Aside0.mk hC
  have HL := Aside0.mk hL
  have hx : ∀ h : 0 < s.size, ((s[0]'h).toNat : Int) = bt s 0 := bt_at s 0
  have q0 := eq_true (show 0 < s.size by omega)
  have hx1 : ∀ h : 1 < s.size, ((s[1]'h).toNat : Int) = bt s 1 := bt_at s 1
  have q1 := eq_true (show 1 < s.size by omega)
  have hn1 : ((s.size : Int) - 1).toNat = s.size - 1 := by omega
  have hy : ∀ q : s.size - 1 < s.size, ((s[s.size - 1]'q).toNat : Int) = bt s ((s.size : Int) - 1) := by
    have := bt_at s ((s.size : Int) - 1)
    intro q
    have h2 := this (by omega)
    simpa [hn1] using h2
  have q2 := eq_true (show s.size - 1 < s.size by omega)
  clear hV hC hL h2 h60
  go_enter Tryz.func3, Tryz.ntmps3
  go_wp2_with fail
  refine (HV.out _ (Below.refl _ _)).mono ?_
  rintro e w1 ⟨rfl, hbel⟩
  have HB := Aside0.mk hbel
  clear hbel
  go_wp2_with fail
  refine (HC.out _ HB.out).mono ?_
  rintro e w2 ⟨rfl, hbel⟩
  have HB2 := Aside0.mk (HB.out.trans (hbel.mono HB.out.size))
  clear hbel HB
  go_wp2_with fail
  refine (HL.out _ HB2.out).mono ?_
  rintro e w3 ⟨ng, A, n, c, rfl, hbel⟩
  have HB3 := Aside0.mk (HB2.out.trans (hbel.mono HB2.out.size))
  clear hbel HB2
  go_wp2
  go_ret
  exact ⟨rfl, below_alloc HB3.out _⟩

set_option maxRecDepth 100000 in
set_option maxHeartbeats 4000000 in
theorem fc_shut (s : ByteArray) (h2 : 2 ≤ s.size) (h60 : s.size ≤ 60) (w : World) (hV : CallB 4 #[.string s] w (.bool true)) (v : Int) (hC : CallB 5 #[.string s] w (.tuple #[.int .i64 v, .bool false])) (k : Int) (hL : LitK s k w) (b0 : (bt s 0 != 39) = false) (b1 : (bt s ((s.size : Int) - 1) != 39) = true) :
    Calls Tryz.prog 3 #[.string s] w fun e w' => e = .returned (.bool true) ∧ Below w.heap.size w w' := by
  have h6 : 2 ≤ (s.size : Int) := by omega
  have h7 : (s.size : Int) ≤ 60 := by omega
  have HV := Aside0.mk hV
  have HC := Aside0.mk hC
  have HL := Aside0.mk hL
  have hx : ∀ h : 0 < s.size, ((s[0]'h).toNat : Int) = bt s 0 := bt_at s 0
  have q0 := eq_true (show 0 < s.size by omega)
  have hx1 : ∀ h : 1 < s.size, ((s[1]'h).toNat : Int) = bt s 1 := bt_at s 1
  have q1 := eq_true (show 1 < s.size by omega)
  have hn1 : ((s.size : Int) - 1).toNat = s.size - 1 := by omega
  have hy : ∀ q : s.size - 1 < s.size, ((s[s.size - 1]'q).toNat : Int) = bt s ((s.size : Int) - 1) := by
    have := bt_at s ((s.size : Int) - 1)
    intro q
    have h2 := this (by omega)
    simpa [hn1] using h2
  have q2 := eq_true (show s.size - 1 < s.size by omega)
  clear hV hC hL h2 h60
  go_enter Tryz.func3, Tryz.ntmps3
  go_wp2_with fail
  refine (HV.out _ (Below.refl _ _)).mono ?_
  rintro e w1 ⟨rfl, hbel⟩
  have HB := Aside0.mk hbel
  clear hbel
  go_wp2_with fail
  refine (HC.out _ HB.out).mono ?_
  rintro e w2 ⟨rfl, hbel⟩
  have HB2 := Aside0.mk (HB.out.trans (hbel.mono HB.out.size))
  clear hbel HB
  go_wp2_with fail
  refine (HL.out _ HB2.out).mono ?_
  rintro e w3 ⟨ng, A, n, c, rfl, hbel⟩
  have HB3 := Aside0.mk (HB2.out.trans (hbel.mono HB2.out.size))
  clear hbel HB2
  go_wp2
  go_ret
  exact ⟨rfl, below_alloc HB3.out _⟩

set_option maxRecDepth 100000 in
set_option maxHeartbeats 4000000 in
theorem fc_newline (s : ByteArray) (h2 : 2 ≤ s.size) (h60 : s.size ≤ 60) (w : World) (hV : CallB 4 #[.string s] w (.bool true)) (v : Int) (hC : CallB 5 #[.string s] w (.tuple #[.int .i64 v, .bool false])) (k : Int) (hL : LitK s k w) (h3 : 2 < (s.size : Int)) (b0 : (bt s 0 != 39) = false) (b1 : (bt s ((s.size : Int) - 1) != 39) = false) (b2 : (bt s 1 == 10) = true) :
    Calls Tryz.prog 3 #[.string s] w fun e w' => e = .returned (.bool true) ∧ Below w.heap.size w w' := by
  have h6 : 2 ≤ (s.size : Int) := by omega
  have h7 : (s.size : Int) ≤ 60 := by omega
  have HV := Aside0.mk hV
  have HC := Aside0.mk hC
  have HL := Aside0.mk hL
  have hx : ∀ h : 0 < s.size, ((s[0]'h).toNat : Int) = bt s 0 := bt_at s 0
  have q0 := eq_true (show 0 < s.size by omega)
  have hx1 : ∀ h : 1 < s.size, ((s[1]'h).toNat : Int) = bt s 1 := bt_at s 1
  have q1 := eq_true (show 1 < s.size by omega)
  have hn1 : ((s.size : Int) - 1).toNat = s.size - 1 := by omega
  have hy : ∀ q : s.size - 1 < s.size, ((s[s.size - 1]'q).toNat : Int) = bt s ((s.size : Int) - 1) := by
    have := bt_at s ((s.size : Int) - 1)
    intro q
    have h2 := this (by omega)
    simpa [hn1] using h2
  have q2 := eq_true (show s.size - 1 < s.size by omega)
  clear hV hC hL h2 h60
  go_enter Tryz.func3, Tryz.ntmps3
  go_wp2_with fail
  refine (HV.out _ (Below.refl _ _)).mono ?_
  rintro e w1 ⟨rfl, hbel⟩
  have HB := Aside0.mk hbel
  clear hbel
  go_wp2_with fail
  refine (HC.out _ HB.out).mono ?_
  rintro e w2 ⟨rfl, hbel⟩
  have HB2 := Aside0.mk (HB.out.trans (hbel.mono HB.out.size))
  clear hbel HB
  go_wp2_with fail
  refine (HL.out _ HB2.out).mono ?_
  rintro e w3 ⟨ng, A, n, c, rfl, hbel⟩
  have HB3 := Aside0.mk (HB2.out.trans (hbel.mono HB2.out.size))
  clear hbel HB2
  go_wp2
  go_ret
  exact ⟨rfl, below_alloc HB3.out _⟩

set_option maxRecDepth 100000 in
set_option maxHeartbeats 4000000 in
theorem fc_first (s : ByteArray) (h2 : 2 ≤ s.size) (h60 : s.size ≤ 60) (w : World) (hV : CallB 4 #[.string s] w (.bool true)) (v : Int) (hC : CallB 5 #[.string s] w (.tuple #[.int .i64 v, .bool false])) (k : Int) (hL : LitK s k w) (f1 f2 : Int) (hF : CallB 10 #[.string s] w (triple f1 f2 true)) (b0 : (bt s 0 != 39) = false) (b1 : (bt s ((s.size : Int) - 1) != 39) = false) (b2 : (bt s 1 == 10) = false) :
    Calls Tryz.prog 3 #[.string s] w fun e w' => e = .returned (.bool true) ∧ Below w.heap.size w w' := by
  have h6 : 2 ≤ (s.size : Int) := by omega
  have h7 : (s.size : Int) ≤ 60 := by omega
  have HV := Aside0.mk hV
  have HC := Aside0.mk hC
  have HL := Aside0.mk hL
  have hx : ∀ h : 0 < s.size, ((s[0]'h).toNat : Int) = bt s 0 := bt_at s 0
  have q0 := eq_true (show 0 < s.size by omega)
  have hx1 : ∀ h : 1 < s.size, ((s[1]'h).toNat : Int) = bt s 1 := bt_at s 1
  have q1 := eq_true (show 1 < s.size by omega)
  have hn1 : ((s.size : Int) - 1).toNat = s.size - 1 := by omega
  have hy : ∀ q : s.size - 1 < s.size, ((s[s.size - 1]'q).toNat : Int) = bt s ((s.size : Int) - 1) := by
    have := bt_at s ((s.size : Int) - 1)
    intro q
    have h2 := this (by omega)
    simpa [hn1] using h2
  have q2 := eq_true (show s.size - 1 < s.size by omega)
  clear hV hC hL h2 h60
  have HF := Aside0.mk hF
  clear hF
  go_enter Tryz.func3, Tryz.ntmps3
  go_wp2_with fail
  refine (HV.out _ (Below.refl _ _)).mono ?_
  rintro e w1 ⟨rfl, hbel⟩
  have HB := Aside0.mk hbel
  clear hbel
  go_wp2_with fail
  refine (HC.out _ HB.out).mono ?_
  rintro e w2 ⟨rfl, hbel⟩
  have HB2 := Aside0.mk (HB.out.trans (hbel.mono HB.out.size))
  clear hbel HB
  go_wp2_with fail
  refine (HL.out _ HB2.out).mono ?_
  rintro e w3 ⟨ng, A, n, c, rfl, hbel⟩
  have HB3 := Aside0.mk (HB2.out.trans (hbel.mono HB2.out.size))
  clear hbel HB2
  by_cases h3 : 2 < (s.size : Int)
  all_goals
    go_wp2_with fail
    refine (HF.out _ (below_alloc HB3.out _)).mono ?_
    rintro e w4 ⟨rfl, hbel⟩
    have HB4 := Aside0.mk (show Below w.heap.size w w4 from (below_alloc HB3.out _).trans (hbel.mono (below_alloc HB3.out _).size))
    have hz := hbel.size
    simp only [World.size_alloc] at hz
    have e0 : ∀ i, w4.cell? ⟨w3.heap.size, i, none⟩ = (#[.int .i64 k, .bool false, .string { data := #[] }, .bool ng, .slice A n c, .slice none 0 0, .bool false, .slice none 0 0, .slice none 0 0] : Array Value)[i]? := fun i => (hbel.cell (p := ⟨w3.heap.size, i, none⟩) (by simp only [World.size_alloc]; omega)).trans (cn rfl)
    have E0 := e0 0
    simp at E0
    clear hbel e0
    unfold triple
    go_wp2
    go_ret
    exact ⟨rfl, HB4.out⟩

set_option maxRecDepth 100000 in
set_option maxHeartbeats 4000000 in
theorem fc_none (s : ByteArray) (h2 : 2 ≤ s.size) (h60 : s.size ≤ 60) (w : World) (hV : CallB 4 #[.string s] w (.bool true)) (v : Int) (hC : CallB 5 #[.string s] w (.tuple #[.int .i64 v, .bool false])) (hL : LitK s 0 w) (f1 f2 : Int) (hF : CallB 10 #[.string s] w (triple f1 f2 false)) (b0 : (bt s 0 != 39) = false) (b1 : (bt s ((s.size : Int) - 1) != 39) = false) (b2 : 2 < (s.size : Int) → (bt s 1 == 10) = false) :
    Calls Tryz.prog 3 #[.string s] w fun e w' => e = .returned (.bool true) ∧ Below w.heap.size w w' := by
  have h6 : 2 ≤ (s.size : Int) := by omega
  have h7 : (s.size : Int) ≤ 60 := by omega
  have HV := Aside0.mk hV
  have HC := Aside0.mk hC
  have HL := Aside0.mk hL
  have hx : ∀ h : 0 < s.size, ((s[0]'h).toNat : Int) = bt s 0 := bt_at s 0
  have q0 := eq_true (show 0 < s.size by omega)
  have hx1 : ∀ h : 1 < s.size, ((s[1]'h).toNat : Int) = bt s 1 := bt_at s 1
  have q1 := eq_true (show 1 < s.size by omega)
  have hn1 : ((s.size : Int) - 1).toNat = s.size - 1 := by omega
  have hy : ∀ q : s.size - 1 < s.size, ((s[s.size - 1]'q).toNat : Int) = bt s ((s.size : Int) - 1) := by
    have := bt_at s ((s.size : Int) - 1)
    intro q
    have h2 := this (by omega)
    simpa [hn1] using h2
  have q2 := eq_true (show s.size - 1 < s.size by omega)
  clear hV hC hL h2 h60
  have HF := Aside0.mk hF
  clear hF
  go_enter Tryz.func3, Tryz.ntmps3
  go_wp2_with fail
  refine (HV.out _ (Below.refl _ _)).mono ?_
  rintro e w1 ⟨rfl, hbel⟩
  have HB := Aside0.mk hbel
  clear hbel
  go_wp2_with fail
  refine (HC.out _ HB.out).mono ?_
  rintro e w2 ⟨rfl, hbel⟩
  have HB2 := Aside0.mk (HB.out.trans (hbel.mono HB.out.size))
  clear hbel HB
  go_wp2_with fail
  refine (HL.out _ HB2.out).mono ?_
  rintro e w3 ⟨ng, A, n, c, rfl, hbel⟩
  have HB3 := Aside0.mk (HB2.out.trans (hbel.mono HB2.out.size))
  clear hbel HB2
  by_cases h3 : 2 < (s.size : Int)
  · have b2 := b2 h3
    go_wp2_with fail
    refine (HF.out _ (below_alloc HB3.out _)).mono ?_
    rintro e w4 ⟨rfl, hbel⟩
    have HB4 := Aside0.mk (show Below w.heap.size w w4 from (below_alloc HB3.out _).trans (hbel.mono (below_alloc HB3.out _).size))
    have hz := hbel.size
    simp only [World.size_alloc] at hz
    have e0 : ∀ i, w4.cell? ⟨w3.heap.size, i, none⟩ = (#[.int .i64 0, .bool false, .string { data := #[] }, .bool ng, .slice A n c, .slice none 0 0, .bool false, .slice none 0 0, .slice none 0 0] : Array Value)[i]? := fun i => (hbel.cell (p := ⟨w3.heap.size, i, none⟩) (by simp only [World.size_alloc]; omega)).trans (cn rfl)
    have E0 := e0 0
    simp at E0
    clear hbel e0
    unfold triple
    go_wp2_with fail
    refine (alive_any _).mono ?_
    rintro e w5 ⟨rfl, hbel⟩
    have HB5 := Aside0.mk (HB4.out.trans (hbel.mono HB4.out.size))
    clear hbel
    go_wp2
    go_ret
    exact ⟨rfl, HB5.out⟩
  · clear b2
    go_wp2_with fail
    refine (HF.out _ (below_alloc HB3.out _)).mono ?_
    rintro e w4 ⟨rfl, hbel⟩
    have HB4 := Aside0.mk (show Below w.heap.size w w4 from (below_alloc HB3.out _).trans (hbel.mono (below_alloc HB3.out _).size))
    have hz := hbel.size
    simp only [World.size_alloc] at hz
    have e0 : ∀ i, w4.cell? ⟨w3.heap.size, i, none⟩ = (#[.int .i64 0, .bool false, .string { data := #[] }, .bool ng, .slice A n c, .slice none 0 0, .bool false, .slice none 0 0, .slice none 0 0] : Array Value)[i]? := fun i => (hbel.cell (p := ⟨w3.heap.size, i, none⟩) (by simp only [World.size_alloc]; omega)).trans (cn rfl)
    have E0 := e0 0
    simp at E0
    clear hbel e0
    unfold triple
    go_wp2_with fail
    refine (alive_any _).mono ?_
    rintro e w5 ⟨rfl, hbel⟩
    have HB5 := Aside0.mk (HB4.out.trans (hbel.mono HB4.out.size))
    clear hbel
    go_wp2
    go_ret
    exact ⟨rfl, HB5.out⟩
end Go.Proofs.YtnanfmjbdmfmkaaGreatDoor

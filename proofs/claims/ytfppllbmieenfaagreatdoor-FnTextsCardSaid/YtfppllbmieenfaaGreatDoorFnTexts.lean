/- The walk of the law on texts. -/
import Derived.Test.YtfppllbmieenfaaGreatDoorTextsB
import Derived.Test.YtfppllbmieenfaaGreatDoorAlive
namespace Go.Proofs.YtfppllbmieenfaaGreatDoor
open Go Go.RowKit Go.Proofs.YtfppllbmieenfaaGreatDoorW.PrintWords Go.MuLone
set_option linter.unusedVariables false
set_option linter.unusedSimpArgs false

theorem less_irrefl : ∀ l : List UInt8, Op.bytesLess l l = false
  | [] => rfl
  | a :: l => by
    show (decide (a < a) || (a == a && Op.bytesLess l l)) = false
    rw [less_irrefl l]
    simp
theorem less_not_eq (s t : ByteArray) (hE : (s.toList == t.toList) = true) (hL : Op.bytesLess s.toList t.toList = true) : False := by
  have h := eq_of_beq hE
  rw [h, less_irrefl] at hL
  exact absurd hL (by decide)

set_option maxRecDepth 100000 in
set_option maxHeartbeats 1000000 in
theorem ft_longa (op : Int) (s t : ByteArray) (hs : s.size ≤ 9223372036854775807) (ht : t.size ≤ 9223372036854775807) (h : 2147483647 < (s.size : Int)) (w : World) :
    Calls Tryz.prog 3 #[.int .u8 op, .string s, .string t] w fun e w' => e = .returned (.bool true) ∧ Below w.heap.size w w' := by
  go_enter Tryz.func3, Tryz.ntmps3
  go_wp2
  go_ret
  exact ⟨rfl, Below.refl _ _⟩

set_option maxRecDepth 100000 in
set_option maxHeartbeats 1000000 in
theorem ft_longb (op : Int) (s t : ByteArray) (hs : s.size ≤ 9223372036854775807) (ht : t.size ≤ 9223372036854775807) (h : (s.size : Int) ≤ 2147483647) (h2 : 2147483647 < (t.size : Int)) (w : World) :
    Calls Tryz.prog 3 #[.int .u8 op, .string s, .string t] w fun e w' => e = .returned (.bool true) ∧ Below w.heap.size w w' := by
  go_enter Tryz.func3, Tryz.ntmps3
  go_wp2
  go_ret
  exact ⟨rfl, Below.refl _ _⟩

set_option maxRecDepth 100000 in
set_option maxHeartbeats 1000000 in
theorem ft_longc (op : Int) (s t : ByteArray) (hs : s.size ≤ 9223372036854775807) (ht : t.size ≤ 9223372036854775807) (h : (s.size : Int) ≤ 2147483647) (h2 : (t.size : Int) ≤ 2147483647) (h3 : 100 < (s.size : Int)) (w : World) :
    Calls Tryz.prog 3 #[.int .u8 op, .string s, .string t] w fun e w' => e = .returned (.bool true) ∧ Below w.heap.size w w' := by
  go_enter Tryz.func3, Tryz.ntmps3
  go_wp2
  go_ret
  exact ⟨rfl, Below.refl _ _⟩

set_option maxRecDepth 100000 in
set_option maxHeartbeats 1000000 in
theorem ft_longd (op : Int) (s t : ByteArray) (hs : s.size ≤ 9223372036854775807) (ht : t.size ≤ 9223372036854775807) (h : (s.size : Int) ≤ 100) (h2 : (t.size : Int) ≤ 2147483647) (h3 : 100 < (t.size : Int)) (w : World) :
    Calls Tryz.prog 3 #[.int .u8 op, .string s, .string t] w fun e w' => e = .returned (.bool true) ∧ Below w.heap.size w w' := by
  go_enter Tryz.func3, Tryz.ntmps3
  go_wp2
  go_ret
  exact ⟨rfl, Below.refl _ _⟩

set_option maxRecDepth 100000 in
set_option maxHeartbeats 4000000 in
theorem ft_main0 (op : Int) (h0 : 0 ≤ op) (h1 : op ≤ 255) (hm : op % 6 = 0) (s t : ByteArray) (hs : s.size ≤ 100) (ht : t.size ≤ 100) (w : World) :
    Calls Tryz.prog 3 #[.int .u8 op, .string s, .string t] w fun e w' => e = .returned (.bool true) ∧ Below w.heap.size w w' := by
  have hsI : (s.size : Int) ≤ 100 := by omega
  have htI : (t.size : Int) ≤ 100 := by omega
  have HZ := Aside0.mk (show s.size ≤ 4096 by omega)
  clear hs ht
  cases hE : (s.toList == t.toList) <;> cases hL : Op.bytesLess s.toList t.toList
  · have hc : ∀ W, Calls Tryz.prog 4 #[.int .i64 0, strI s, strI t] W fun e w' => e = .returned (.bool false) ∧ Below W.heap.size W w' := by
      intro W
      have h := icmp0 s t W
      unfold strEq strLt at h
      rw [hE, hL] at h
      exact h
    have HC := Aside0.mk hc
    clear hc
    go_enter Tryz.func3, Tryz.ntmps3
    go_wp2_with fail
    refine (HC.out _).mono ?_
    rintro e w1 ⟨rfl, hb⟩
    have HB := Aside0.mk (show Below w.heap.size w w1 from (below_alloc (below_alloc (Below.refl _ _) _) _).trans (hb.mono (by simp; omega)))
    have hz := hb.size
    simp only [World.size_alloc] at hz
    have e0 : ∀ i, w1.cell? ⟨w.heap.size, i, none⟩ = (#[.int .i64 2, .bool false, .string s, .bool false, .slice none 0 0, .slice none 0 0, .bool false, .slice none 0 0, .slice none 0 0] : Array Value)[i]? := fun i => (hb.cell (p := ⟨w.heap.size, i, none⟩) (by simp only [World.size_alloc]; omega)).trans ((ca (by simp)).trans (cn rfl))
    clear hb
    go_wp2_with (go_at_call 5; go_in)
    refine (ilen_str s HZ.out _).mono ?_
    rintro e w2 ⟨rfl, hb⟩
    have HB2 := Aside0.mk (HB.out.trans (hb.mono HB.out.size))
    clear hb
    go_wp2_with fail
    refine (alive_any _).mono ?_
    rintro e w3 ⟨rfl, hb⟩
    have HB3 := Aside0.mk (HB2.out.trans (hb.mono HB2.out.size))
    clear hb
    go_wp2
    go_ret
    exact ⟨rfl, HB3.out⟩
  · have hc : ∀ W, Calls Tryz.prog 4 #[.int .i64 0, strI s, strI t] W fun e w' => e = .returned (.bool false) ∧ Below W.heap.size W w' := by
      intro W
      have h := icmp0 s t W
      unfold strEq strLt at h
      rw [hE, hL] at h
      exact h
    have HC := Aside0.mk hc
    clear hc
    go_enter Tryz.func3, Tryz.ntmps3
    go_wp2_with fail
    refine (HC.out _).mono ?_
    rintro e w1 ⟨rfl, hb⟩
    have HB := Aside0.mk (show Below w.heap.size w w1 from (below_alloc (below_alloc (Below.refl _ _) _) _).trans (hb.mono (by simp; omega)))
    have hz := hb.size
    simp only [World.size_alloc] at hz
    have e0 : ∀ i, w1.cell? ⟨w.heap.size, i, none⟩ = (#[.int .i64 2, .bool false, .string s, .bool false, .slice none 0 0, .slice none 0 0, .bool false, .slice none 0 0, .slice none 0 0] : Array Value)[i]? := fun i => (hb.cell (p := ⟨w.heap.size, i, none⟩) (by simp only [World.size_alloc]; omega)).trans ((ca (by simp)).trans (cn rfl))
    clear hb
    go_wp2_with (go_at_call 5; go_in)
    refine (ilen_str s HZ.out _).mono ?_
    rintro e w2 ⟨rfl, hb⟩
    have HB2 := Aside0.mk (HB.out.trans (hb.mono HB.out.size))
    clear hb
    go_wp2_with fail
    refine (alive_any _).mono ?_
    rintro e w3 ⟨rfl, hb⟩
    have HB3 := Aside0.mk (HB2.out.trans (hb.mono HB2.out.size))
    clear hb
    go_wp2
    go_ret
    exact ⟨rfl, HB3.out⟩
  · have hc : ∀ W, Calls Tryz.prog 4 #[.int .i64 0, strI s, strI t] W fun e w' => e = .returned (.bool true) ∧ Below W.heap.size W w' := by
      intro W
      have h := icmp0 s t W
      unfold strEq strLt at h
      rw [hE, hL] at h
      exact h
    have HC := Aside0.mk hc
    clear hc
    go_enter Tryz.func3, Tryz.ntmps3
    go_wp2_with fail
    refine (HC.out _).mono ?_
    rintro e w1 ⟨rfl, hb⟩
    have HB := Aside0.mk (show Below w.heap.size w w1 from (below_alloc (below_alloc (Below.refl _ _) _) _).trans (hb.mono (by simp; omega)))
    have hz := hb.size
    simp only [World.size_alloc] at hz
    have e0 : ∀ i, w1.cell? ⟨w.heap.size, i, none⟩ = (#[.int .i64 2, .bool false, .string s, .bool false, .slice none 0 0, .slice none 0 0, .bool false, .slice none 0 0, .slice none 0 0] : Array Value)[i]? := fun i => (hb.cell (p := ⟨w.heap.size, i, none⟩) (by simp only [World.size_alloc]; omega)).trans ((ca (by simp)).trans (cn rfl))
    clear hb
    go_wp2_with (go_at_call 5; go_in)
    refine (ilen_str s HZ.out _).mono ?_
    rintro e w2 ⟨rfl, hb⟩
    have HB2 := Aside0.mk (HB.out.trans (hb.mono HB.out.size))
    clear hb
    go_wp2_with fail
    refine (alive_any _).mono ?_
    rintro e w3 ⟨rfl, hb⟩
    have HB3 := Aside0.mk (HB2.out.trans (hb.mono HB2.out.size))
    clear hb
    go_wp2
    go_ret
    exact ⟨rfl, HB3.out⟩
  · exact (less_not_eq s t hE hL).elim

set_option maxRecDepth 100000 in
set_option maxHeartbeats 4000000 in
theorem ft_main1 (op : Int) (h0 : 0 ≤ op) (h1 : op ≤ 255) (hm : op % 6 = 1) (s t : ByteArray) (hs : s.size ≤ 100) (ht : t.size ≤ 100) (w : World) :
    Calls Tryz.prog 3 #[.int .u8 op, .string s, .string t] w fun e w' => e = .returned (.bool true) ∧ Below w.heap.size w w' := by
  have hsI : (s.size : Int) ≤ 100 := by omega
  have htI : (t.size : Int) ≤ 100 := by omega
  have HZ := Aside0.mk (show s.size ≤ 4096 by omega)
  clear hs ht
  cases hE : (s.toList == t.toList) <;> cases hL : Op.bytesLess s.toList t.toList
  · have hc : ∀ W, Calls Tryz.prog 4 #[.int .i64 1, strI s, strI t] W fun e w' => e = .returned (.bool true) ∧ Below W.heap.size W w' := by
      intro W
      have h := icmp1 s t W
      unfold strEq strLt at h
      rw [hE, hL] at h
      exact h
    have HC := Aside0.mk hc
    clear hc
    go_enter Tryz.func3, Tryz.ntmps3
    go_wp2_with fail
    refine (HC.out _).mono ?_
    rintro e w1 ⟨rfl, hb⟩
    have HB := Aside0.mk (show Below w.heap.size w w1 from (below_alloc (below_alloc (Below.refl _ _) _) _).trans (hb.mono (by simp; omega)))
    have hz := hb.size
    simp only [World.size_alloc] at hz
    have e0 : ∀ i, w1.cell? ⟨w.heap.size, i, none⟩ = (#[.int .i64 2, .bool false, .string s, .bool false, .slice none 0 0, .slice none 0 0, .bool false, .slice none 0 0, .slice none 0 0] : Array Value)[i]? := fun i => (hb.cell (p := ⟨w.heap.size, i, none⟩) (by simp only [World.size_alloc]; omega)).trans ((ca (by simp)).trans (cn rfl))
    clear hb
    go_wp2_with (go_at_call 5; go_in)
    refine (ilen_str s HZ.out _).mono ?_
    rintro e w2 ⟨rfl, hb⟩
    have HB2 := Aside0.mk (HB.out.trans (hb.mono HB.out.size))
    clear hb
    go_wp2_with fail
    refine (alive_any _).mono ?_
    rintro e w3 ⟨rfl, hb⟩
    have HB3 := Aside0.mk (HB2.out.trans (hb.mono HB2.out.size))
    clear hb
    go_wp2
    go_ret
    exact ⟨rfl, HB3.out⟩
  · have hc : ∀ W, Calls Tryz.prog 4 #[.int .i64 1, strI s, strI t] W fun e w' => e = .returned (.bool true) ∧ Below W.heap.size W w' := by
      intro W
      have h := icmp1 s t W
      unfold strEq strLt at h
      rw [hE, hL] at h
      exact h
    have HC := Aside0.mk hc
    clear hc
    go_enter Tryz.func3, Tryz.ntmps3
    go_wp2_with fail
    refine (HC.out _).mono ?_
    rintro e w1 ⟨rfl, hb⟩
    have HB := Aside0.mk (show Below w.heap.size w w1 from (below_alloc (below_alloc (Below.refl _ _) _) _).trans (hb.mono (by simp; omega)))
    have hz := hb.size
    simp only [World.size_alloc] at hz
    have e0 : ∀ i, w1.cell? ⟨w.heap.size, i, none⟩ = (#[.int .i64 2, .bool false, .string s, .bool false, .slice none 0 0, .slice none 0 0, .bool false, .slice none 0 0, .slice none 0 0] : Array Value)[i]? := fun i => (hb.cell (p := ⟨w.heap.size, i, none⟩) (by simp only [World.size_alloc]; omega)).trans ((ca (by simp)).trans (cn rfl))
    clear hb
    go_wp2_with (go_at_call 5; go_in)
    refine (ilen_str s HZ.out _).mono ?_
    rintro e w2 ⟨rfl, hb⟩
    have HB2 := Aside0.mk (HB.out.trans (hb.mono HB.out.size))
    clear hb
    go_wp2_with fail
    refine (alive_any _).mono ?_
    rintro e w3 ⟨rfl, hb⟩
    have HB3 := Aside0.mk (HB2.out.trans (hb.mono HB2.out.size))
    clear hb
    go_wp2
    go_ret
    exact ⟨rfl, HB3.out⟩
  · have hc : ∀ W, Calls Tryz.prog 4 #[.int .i64 1, strI s, strI t] W fun e w' => e = .returned (.bool false) ∧ Below W.heap.size W w' := by
      intro W
      have h := icmp1 s t W
      unfold strEq strLt at h
      rw [hE, hL] at h
      exact h
    have HC := Aside0.mk hc
    clear hc
    go_enter Tryz.func3, Tryz.ntmps3
    go_wp2_with fail
    refine (HC.out _).mono ?_
    rintro e w1 ⟨rfl, hb⟩
    have HB := Aside0.mk (show Below w.heap.size w w1 from (below_alloc (below_alloc (Below.refl _ _) _) _).trans (hb.mono (by simp; omega)))
    have hz := hb.size
    simp only [World.size_alloc] at hz
    have e0 : ∀ i, w1.cell? ⟨w.heap.size, i, none⟩ = (#[.int .i64 2, .bool false, .string s, .bool false, .slice none 0 0, .slice none 0 0, .bool false, .slice none 0 0, .slice none 0 0] : Array Value)[i]? := fun i => (hb.cell (p := ⟨w.heap.size, i, none⟩) (by simp only [World.size_alloc]; omega)).trans ((ca (by simp)).trans (cn rfl))
    clear hb
    go_wp2_with (go_at_call 5; go_in)
    refine (ilen_str s HZ.out _).mono ?_
    rintro e w2 ⟨rfl, hb⟩
    have HB2 := Aside0.mk (HB.out.trans (hb.mono HB.out.size))
    clear hb
    go_wp2_with fail
    refine (alive_any _).mono ?_
    rintro e w3 ⟨rfl, hb⟩
    have HB3 := Aside0.mk (HB2.out.trans (hb.mono HB2.out.size))
    clear hb
    go_wp2
    go_ret
    exact ⟨rfl, HB3.out⟩
  · exact (less_not_eq s t hE hL).elim

set_option maxRecDepth 100000 in
set_option maxHeartbeats 4000000 in
theorem ft_main2 (op : Int) (h0 : 0 ≤ op) (h1 : op ≤ 255) (hm : op % 6 = 2) (s t : ByteArray) (hs : s.size ≤ 100) (ht : t.size ≤ 100) (w : World) :
    Calls Tryz.prog 3 #[.int .u8 op, .string s, .string t] w fun e w' => e = .returned (.bool true) ∧ Below w.heap.size w w' := by
  have hsI : (s.size : Int) ≤ 100 := by omega
  have htI : (t.size : Int) ≤ 100 := by omega
  have HZ := Aside0.mk (show s.size ≤ 4096 by omega)
  clear hs ht
  cases hE : (s.toList == t.toList) <;> cases hL : Op.bytesLess s.toList t.toList
  · have hc : ∀ W, Calls Tryz.prog 4 #[.int .i64 2, strI s, strI t] W fun e w' => e = .returned (.bool false) ∧ Below W.heap.size W w' := by
      intro W
      have h := icmp2 s t W
      unfold strEq strLt at h
      rw [hE, hL] at h
      exact h
    have HC := Aside0.mk hc
    clear hc
    go_enter Tryz.func3, Tryz.ntmps3
    go_wp2_with fail
    refine (HC.out _).mono ?_
    rintro e w1 ⟨rfl, hb⟩
    have HB := Aside0.mk (show Below w.heap.size w w1 from (below_alloc (below_alloc (Below.refl _ _) _) _).trans (hb.mono (by simp; omega)))
    have hz := hb.size
    simp only [World.size_alloc] at hz
    have e0 : ∀ i, w1.cell? ⟨w.heap.size, i, none⟩ = (#[.int .i64 2, .bool false, .string s, .bool false, .slice none 0 0, .slice none 0 0, .bool false, .slice none 0 0, .slice none 0 0] : Array Value)[i]? := fun i => (hb.cell (p := ⟨w.heap.size, i, none⟩) (by simp only [World.size_alloc]; omega)).trans ((ca (by simp)).trans (cn rfl))
    clear hb
    go_wp2_with (go_at_call 5; go_in)
    refine (ilen_str s HZ.out _).mono ?_
    rintro e w2 ⟨rfl, hb⟩
    have HB2 := Aside0.mk (HB.out.trans (hb.mono HB.out.size))
    clear hb
    go_wp2_with fail
    refine (alive_any _).mono ?_
    rintro e w3 ⟨rfl, hb⟩
    have HB3 := Aside0.mk (HB2.out.trans (hb.mono HB2.out.size))
    clear hb
    go_wp2
    go_ret
    exact ⟨rfl, HB3.out⟩
  · have hc : ∀ W, Calls Tryz.prog 4 #[.int .i64 2, strI s, strI t] W fun e w' => e = .returned (.bool true) ∧ Below W.heap.size W w' := by
      intro W
      have h := icmp2 s t W
      unfold strEq strLt at h
      rw [hE, hL] at h
      exact h
    have HC := Aside0.mk hc
    clear hc
    go_enter Tryz.func3, Tryz.ntmps3
    go_wp2_with fail
    refine (HC.out _).mono ?_
    rintro e w1 ⟨rfl, hb⟩
    have HB := Aside0.mk (show Below w.heap.size w w1 from (below_alloc (below_alloc (Below.refl _ _) _) _).trans (hb.mono (by simp; omega)))
    have hz := hb.size
    simp only [World.size_alloc] at hz
    have e0 : ∀ i, w1.cell? ⟨w.heap.size, i, none⟩ = (#[.int .i64 2, .bool false, .string s, .bool false, .slice none 0 0, .slice none 0 0, .bool false, .slice none 0 0, .slice none 0 0] : Array Value)[i]? := fun i => (hb.cell (p := ⟨w.heap.size, i, none⟩) (by simp only [World.size_alloc]; omega)).trans ((ca (by simp)).trans (cn rfl))
    clear hb
    go_wp2_with (go_at_call 5; go_in)
    refine (ilen_str s HZ.out _).mono ?_
    rintro e w2 ⟨rfl, hb⟩
    have HB2 := Aside0.mk (HB.out.trans (hb.mono HB.out.size))
    clear hb
    go_wp2_with fail
    refine (alive_any _).mono ?_
    rintro e w3 ⟨rfl, hb⟩
    have HB3 := Aside0.mk (HB2.out.trans (hb.mono HB2.out.size))
    clear hb
    go_wp2
    go_ret
    exact ⟨rfl, HB3.out⟩
  · have hc : ∀ W, Calls Tryz.prog 4 #[.int .i64 2, strI s, strI t] W fun e w' => e = .returned (.bool false) ∧ Below W.heap.size W w' := by
      intro W
      have h := icmp2 s t W
      unfold strEq strLt at h
      rw [hE, hL] at h
      exact h
    have HC := Aside0.mk hc
    clear hc
    go_enter Tryz.func3, Tryz.ntmps3
    go_wp2_with fail
    refine (HC.out _).mono ?_
    rintro e w1 ⟨rfl, hb⟩
    have HB := Aside0.mk (show Below w.heap.size w w1 from (below_alloc (below_alloc (Below.refl _ _) _) _).trans (hb.mono (by simp; omega)))
    have hz := hb.size
    simp only [World.size_alloc] at hz
    have e0 : ∀ i, w1.cell? ⟨w.heap.size, i, none⟩ = (#[.int .i64 2, .bool false, .string s, .bool false, .slice none 0 0, .slice none 0 0, .bool false, .slice none 0 0, .slice none 0 0] : Array Value)[i]? := fun i => (hb.cell (p := ⟨w.heap.size, i, none⟩) (by simp only [World.size_alloc]; omega)).trans ((ca (by simp)).trans (cn rfl))
    clear hb
    go_wp2_with (go_at_call 5; go_in)
    refine (ilen_str s HZ.out _).mono ?_
    rintro e w2 ⟨rfl, hb⟩
    have HB2 := Aside0.mk (HB.out.trans (hb.mono HB.out.size))
    clear hb
    go_wp2_with fail
    refine (alive_any _).mono ?_
    rintro e w3 ⟨rfl, hb⟩
    have HB3 := Aside0.mk (HB2.out.trans (hb.mono HB2.out.size))
    clear hb
    go_wp2
    go_ret
    exact ⟨rfl, HB3.out⟩
  · exact (less_not_eq s t hE hL).elim

set_option maxRecDepth 100000 in
set_option maxHeartbeats 4000000 in
theorem ft_main3 (op : Int) (h0 : 0 ≤ op) (h1 : op ≤ 255) (hm : op % 6 = 3) (s t : ByteArray) (hs : s.size ≤ 100) (ht : t.size ≤ 100) (w : World) :
    Calls Tryz.prog 3 #[.int .u8 op, .string s, .string t] w fun e w' => e = .returned (.bool true) ∧ Below w.heap.size w w' := by
  have hsI : (s.size : Int) ≤ 100 := by omega
  have htI : (t.size : Int) ≤ 100 := by omega
  have HZ := Aside0.mk (show s.size ≤ 4096 by omega)
  clear hs ht
  cases hE : (s.toList == t.toList) <;> cases hL : Op.bytesLess s.toList t.toList
  · have hc : ∀ W, Calls Tryz.prog 4 #[.int .i64 3, strI s, strI t] W fun e w' => e = .returned (.bool false) ∧ Below W.heap.size W w' := by
      intro W
      have h := icmp3 s t W
      unfold strEq strLt at h
      rw [hE, hL] at h
      exact h
    have HC := Aside0.mk hc
    clear hc
    go_enter Tryz.func3, Tryz.ntmps3
    go_wp2_with fail
    refine (HC.out _).mono ?_
    rintro e w1 ⟨rfl, hb⟩
    have HB := Aside0.mk (show Below w.heap.size w w1 from (below_alloc (below_alloc (Below.refl _ _) _) _).trans (hb.mono (by simp; omega)))
    have hz := hb.size
    simp only [World.size_alloc] at hz
    have e0 : ∀ i, w1.cell? ⟨w.heap.size, i, none⟩ = (#[.int .i64 2, .bool false, .string s, .bool false, .slice none 0 0, .slice none 0 0, .bool false, .slice none 0 0, .slice none 0 0] : Array Value)[i]? := fun i => (hb.cell (p := ⟨w.heap.size, i, none⟩) (by simp only [World.size_alloc]; omega)).trans ((ca (by simp)).trans (cn rfl))
    clear hb
    go_wp2_with (go_at_call 5; go_in)
    refine (ilen_str s HZ.out _).mono ?_
    rintro e w2 ⟨rfl, hb⟩
    have HB2 := Aside0.mk (HB.out.trans (hb.mono HB.out.size))
    clear hb
    go_wp2_with fail
    refine (alive_any _).mono ?_
    rintro e w3 ⟨rfl, hb⟩
    have HB3 := Aside0.mk (HB2.out.trans (hb.mono HB2.out.size))
    clear hb
    go_wp2
    go_ret
    exact ⟨rfl, HB3.out⟩
  · have hc : ∀ W, Calls Tryz.prog 4 #[.int .i64 3, strI s, strI t] W fun e w' => e = .returned (.bool true) ∧ Below W.heap.size W w' := by
      intro W
      have h := icmp3 s t W
      unfold strEq strLt at h
      rw [hE, hL] at h
      exact h
    have HC := Aside0.mk hc
    clear hc
    go_enter Tryz.func3, Tryz.ntmps3
    go_wp2_with fail
    refine (HC.out _).mono ?_
    rintro e w1 ⟨rfl, hb⟩
    have HB := Aside0.mk (show Below w.heap.size w w1 from (below_alloc (below_alloc (Below.refl _ _) _) _).trans (hb.mono (by simp; omega)))
    have hz := hb.size
    simp only [World.size_alloc] at hz
    have e0 : ∀ i, w1.cell? ⟨w.heap.size, i, none⟩ = (#[.int .i64 2, .bool false, .string s, .bool false, .slice none 0 0, .slice none 0 0, .bool false, .slice none 0 0, .slice none 0 0] : Array Value)[i]? := fun i => (hb.cell (p := ⟨w.heap.size, i, none⟩) (by simp only [World.size_alloc]; omega)).trans ((ca (by simp)).trans (cn rfl))
    clear hb
    go_wp2_with (go_at_call 5; go_in)
    refine (ilen_str s HZ.out _).mono ?_
    rintro e w2 ⟨rfl, hb⟩
    have HB2 := Aside0.mk (HB.out.trans (hb.mono HB.out.size))
    clear hb
    go_wp2_with fail
    refine (alive_any _).mono ?_
    rintro e w3 ⟨rfl, hb⟩
    have HB3 := Aside0.mk (HB2.out.trans (hb.mono HB2.out.size))
    clear hb
    go_wp2
    go_ret
    exact ⟨rfl, HB3.out⟩
  · have hc : ∀ W, Calls Tryz.prog 4 #[.int .i64 3, strI s, strI t] W fun e w' => e = .returned (.bool true) ∧ Below W.heap.size W w' := by
      intro W
      have h := icmp3 s t W
      unfold strEq strLt at h
      rw [hE, hL] at h
      exact h
    have HC := Aside0.mk hc
    clear hc
    go_enter Tryz.func3, Tryz.ntmps3
    go_wp2_with fail
    refine (HC.out _).mono ?_
    rintro e w1 ⟨rfl, hb⟩
    have HB := Aside0.mk (show Below w.heap.size w w1 from (below_alloc (below_alloc (Below.refl _ _) _) _).trans (hb.mono (by simp; omega)))
    have hz := hb.size
    simp only [World.size_alloc] at hz
    have e0 : ∀ i, w1.cell? ⟨w.heap.size, i, none⟩ = (#[.int .i64 2, .bool false, .string s, .bool false, .slice none 0 0, .slice none 0 0, .bool false, .slice none 0 0, .slice none 0 0] : Array Value)[i]? := fun i => (hb.cell (p := ⟨w.heap.size, i, none⟩) (by simp only [World.size_alloc]; omega)).trans ((ca (by simp)).trans (cn rfl))
    clear hb
    go_wp2_with (go_at_call 5; go_in)
    refine (ilen_str s HZ.out _).mono ?_
    rintro e w2 ⟨rfl, hb⟩
    have HB2 := Aside0.mk (HB.out.trans (hb.mono HB.out.size))
    clear hb
    go_wp2_with fail
    refine (alive_any _).mono ?_
    rintro e w3 ⟨rfl, hb⟩
    have HB3 := Aside0.mk (HB2.out.trans (hb.mono HB2.out.size))
    clear hb
    go_wp2
    go_ret
    exact ⟨rfl, HB3.out⟩
  · exact (less_not_eq s t hE hL).elim

set_option maxRecDepth 100000 in
set_option maxHeartbeats 4000000 in
theorem ft_main4 (op : Int) (h0 : 0 ≤ op) (h1 : op ≤ 255) (hm : op % 6 = 4) (s t : ByteArray) (hs : s.size ≤ 100) (ht : t.size ≤ 100) (w : World) :
    Calls Tryz.prog 3 #[.int .u8 op, .string s, .string t] w fun e w' => e = .returned (.bool true) ∧ Below w.heap.size w w' := by
  have hsI : (s.size : Int) ≤ 100 := by omega
  have htI : (t.size : Int) ≤ 100 := by omega
  have HZ := Aside0.mk (show s.size ≤ 4096 by omega)
  clear hs ht
  cases hE : (s.toList == t.toList) <;> cases hL : Op.bytesLess s.toList t.toList
  · have hc : ∀ W, Calls Tryz.prog 4 #[.int .i64 4, strI s, strI t] W fun e w' => e = .returned (.bool true) ∧ Below W.heap.size W w' := by
      intro W
      have h := icmp4 s t W
      unfold strEq strLt at h
      rw [hE, hL] at h
      exact h
    have HC := Aside0.mk hc
    clear hc
    go_enter Tryz.func3, Tryz.ntmps3
    go_wp2_with fail
    refine (HC.out _).mono ?_
    rintro e w1 ⟨rfl, hb⟩
    have HB := Aside0.mk (show Below w.heap.size w w1 from (below_alloc (below_alloc (Below.refl _ _) _) _).trans (hb.mono (by simp; omega)))
    have hz := hb.size
    simp only [World.size_alloc] at hz
    have e0 : ∀ i, w1.cell? ⟨w.heap.size, i, none⟩ = (#[.int .i64 2, .bool false, .string s, .bool false, .slice none 0 0, .slice none 0 0, .bool false, .slice none 0 0, .slice none 0 0] : Array Value)[i]? := fun i => (hb.cell (p := ⟨w.heap.size, i, none⟩) (by simp only [World.size_alloc]; omega)).trans ((ca (by simp)).trans (cn rfl))
    clear hb
    go_wp2_with (go_at_call 5; go_in)
    refine (ilen_str s HZ.out _).mono ?_
    rintro e w2 ⟨rfl, hb⟩
    have HB2 := Aside0.mk (HB.out.trans (hb.mono HB.out.size))
    clear hb
    go_wp2_with fail
    refine (alive_any _).mono ?_
    rintro e w3 ⟨rfl, hb⟩
    have HB3 := Aside0.mk (HB2.out.trans (hb.mono HB2.out.size))
    clear hb
    go_wp2
    go_ret
    exact ⟨rfl, HB3.out⟩
  · have hc : ∀ W, Calls Tryz.prog 4 #[.int .i64 4, strI s, strI t] W fun e w' => e = .returned (.bool false) ∧ Below W.heap.size W w' := by
      intro W
      have h := icmp4 s t W
      unfold strEq strLt at h
      rw [hE, hL] at h
      exact h
    have HC := Aside0.mk hc
    clear hc
    go_enter Tryz.func3, Tryz.ntmps3
    go_wp2_with fail
    refine (HC.out _).mono ?_
    rintro e w1 ⟨rfl, hb⟩
    have HB := Aside0.mk (show Below w.heap.size w w1 from (below_alloc (below_alloc (Below.refl _ _) _) _).trans (hb.mono (by simp; omega)))
    have hz := hb.size
    simp only [World.size_alloc] at hz
    have e0 : ∀ i, w1.cell? ⟨w.heap.size, i, none⟩ = (#[.int .i64 2, .bool false, .string s, .bool false, .slice none 0 0, .slice none 0 0, .bool false, .slice none 0 0, .slice none 0 0] : Array Value)[i]? := fun i => (hb.cell (p := ⟨w.heap.size, i, none⟩) (by simp only [World.size_alloc]; omega)).trans ((ca (by simp)).trans (cn rfl))
    clear hb
    go_wp2_with (go_at_call 5; go_in)
    refine (ilen_str s HZ.out _).mono ?_
    rintro e w2 ⟨rfl, hb⟩
    have HB2 := Aside0.mk (HB.out.trans (hb.mono HB.out.size))
    clear hb
    go_wp2_with fail
    refine (alive_any _).mono ?_
    rintro e w3 ⟨rfl, hb⟩
    have HB3 := Aside0.mk (HB2.out.trans (hb.mono HB2.out.size))
    clear hb
    go_wp2
    go_ret
    exact ⟨rfl, HB3.out⟩
  · have hc : ∀ W, Calls Tryz.prog 4 #[.int .i64 4, strI s, strI t] W fun e w' => e = .returned (.bool false) ∧ Below W.heap.size W w' := by
      intro W
      have h := icmp4 s t W
      unfold strEq strLt at h
      rw [hE, hL] at h
      exact h
    have HC := Aside0.mk hc
    clear hc
    go_enter Tryz.func3, Tryz.ntmps3
    go_wp2_with fail
    refine (HC.out _).mono ?_
    rintro e w1 ⟨rfl, hb⟩
    have HB := Aside0.mk (show Below w.heap.size w w1 from (below_alloc (below_alloc (Below.refl _ _) _) _).trans (hb.mono (by simp; omega)))
    have hz := hb.size
    simp only [World.size_alloc] at hz
    have e0 : ∀ i, w1.cell? ⟨w.heap.size, i, none⟩ = (#[.int .i64 2, .bool false, .string s, .bool false, .slice none 0 0, .slice none 0 0, .bool false, .slice none 0 0, .slice none 0 0] : Array Value)[i]? := fun i => (hb.cell (p := ⟨w.heap.size, i, none⟩) (by simp only [World.size_alloc]; omega)).trans ((ca (by simp)).trans (cn rfl))
    clear hb
    go_wp2_with (go_at_call 5; go_in)
    refine (ilen_str s HZ.out _).mono ?_
    rintro e w2 ⟨rfl, hb⟩
    have HB2 := Aside0.mk (HB.out.trans (hb.mono HB.out.size))
    clear hb
    go_wp2_with fail
    refine (alive_any _).mono ?_
    rintro e w3 ⟨rfl, hb⟩
    have HB3 := Aside0.mk (HB2.out.trans (hb.mono HB2.out.size))
    clear hb
    go_wp2
    go_ret
    exact ⟨rfl, HB3.out⟩
  · exact (less_not_eq s t hE hL).elim

set_option maxRecDepth 100000 in
set_option maxHeartbeats 4000000 in
theorem ft_main5 (op : Int) (h0 : 0 ≤ op) (h1 : op ≤ 255) (hm : op % 6 = 5) (s t : ByteArray) (hs : s.size ≤ 100) (ht : t.size ≤ 100) (w : World) :
    Calls Tryz.prog 3 #[.int .u8 op, .string s, .string t] w fun e w' => e = .returned (.bool true) ∧ Below w.heap.size w w' := by
  have hsI : (s.size : Int) ≤ 100 := by omega
  have htI : (t.size : Int) ≤ 100 := by omega
  have HZ := Aside0.mk (show s.size ≤ 4096 by omega)
  clear hs ht
  cases hE : (s.toList == t.toList) <;> cases hL : Op.bytesLess s.toList t.toList
  · have hc : ∀ W, Calls Tryz.prog 4 #[.int .i64 5, strI s, strI t] W fun e w' => e = .returned (.bool true) ∧ Below W.heap.size W w' := by
      intro W
      have h := icmp5 s t W
      unfold strEq strLt at h
      rw [hE, hL] at h
      exact h
    have HC := Aside0.mk hc
    clear hc
    go_enter Tryz.func3, Tryz.ntmps3
    go_wp2_with fail
    refine (HC.out _).mono ?_
    rintro e w1 ⟨rfl, hb⟩
    have HB := Aside0.mk (show Below w.heap.size w w1 from (below_alloc (below_alloc (Below.refl _ _) _) _).trans (hb.mono (by simp; omega)))
    have hz := hb.size
    simp only [World.size_alloc] at hz
    have e0 : ∀ i, w1.cell? ⟨w.heap.size, i, none⟩ = (#[.int .i64 2, .bool false, .string s, .bool false, .slice none 0 0, .slice none 0 0, .bool false, .slice none 0 0, .slice none 0 0] : Array Value)[i]? := fun i => (hb.cell (p := ⟨w.heap.size, i, none⟩) (by simp only [World.size_alloc]; omega)).trans ((ca (by simp)).trans (cn rfl))
    clear hb
    go_wp2_with (go_at_call 5; go_in)
    refine (ilen_str s HZ.out _).mono ?_
    rintro e w2 ⟨rfl, hb⟩
    have HB2 := Aside0.mk (HB.out.trans (hb.mono HB.out.size))
    clear hb
    go_wp2_with fail
    refine (alive_any _).mono ?_
    rintro e w3 ⟨rfl, hb⟩
    have HB3 := Aside0.mk (HB2.out.trans (hb.mono HB2.out.size))
    clear hb
    go_wp2
    go_ret
    exact ⟨rfl, HB3.out⟩
  · have hc : ∀ W, Calls Tryz.prog 4 #[.int .i64 5, strI s, strI t] W fun e w' => e = .returned (.bool false) ∧ Below W.heap.size W w' := by
      intro W
      have h := icmp5 s t W
      unfold strEq strLt at h
      rw [hE, hL] at h
      exact h
    have HC := Aside0.mk hc
    clear hc
    go_enter Tryz.func3, Tryz.ntmps3
    go_wp2_with fail
    refine (HC.out _).mono ?_
    rintro e w1 ⟨rfl, hb⟩
    have HB := Aside0.mk (show Below w.heap.size w w1 from (below_alloc (below_alloc (Below.refl _ _) _) _).trans (hb.mono (by simp; omega)))
    have hz := hb.size
    simp only [World.size_alloc] at hz
    have e0 : ∀ i, w1.cell? ⟨w.heap.size, i, none⟩ = (#[.int .i64 2, .bool false, .string s, .bool false, .slice none 0 0, .slice none 0 0, .bool false, .slice none 0 0, .slice none 0 0] : Array Value)[i]? := fun i => (hb.cell (p := ⟨w.heap.size, i, none⟩) (by simp only [World.size_alloc]; omega)).trans ((ca (by simp)).trans (cn rfl))
    clear hb
    go_wp2_with (go_at_call 5; go_in)
    refine (ilen_str s HZ.out _).mono ?_
    rintro e w2 ⟨rfl, hb⟩
    have HB2 := Aside0.mk (HB.out.trans (hb.mono HB.out.size))
    clear hb
    go_wp2_with fail
    refine (alive_any _).mono ?_
    rintro e w3 ⟨rfl, hb⟩
    have HB3 := Aside0.mk (HB2.out.trans (hb.mono HB2.out.size))
    clear hb
    go_wp2
    go_ret
    exact ⟨rfl, HB3.out⟩
  · have hc : ∀ W, Calls Tryz.prog 4 #[.int .i64 5, strI s, strI t] W fun e w' => e = .returned (.bool true) ∧ Below W.heap.size W w' := by
      intro W
      have h := icmp5 s t W
      unfold strEq strLt at h
      rw [hE, hL] at h
      exact h
    have HC := Aside0.mk hc
    clear hc
    go_enter Tryz.func3, Tryz.ntmps3
    go_wp2_with fail
    refine (HC.out _).mono ?_
    rintro e w1 ⟨rfl, hb⟩
    have HB := Aside0.mk (show Below w.heap.size w w1 from (below_alloc (below_alloc (Below.refl _ _) _) _).trans (hb.mono (by simp; omega)))
    have hz := hb.size
    simp only [World.size_alloc] at hz
    have e0 : ∀ i, w1.cell? ⟨w.heap.size, i, none⟩ = (#[.int .i64 2, .bool false, .string s, .bool false, .slice none 0 0, .slice none 0 0, .bool false, .slice none 0 0, .slice none 0 0] : Array Value)[i]? := fun i => (hb.cell (p := ⟨w.heap.size, i, none⟩) (by simp only [World.size_alloc]; omega)).trans ((ca (by simp)).trans (cn rfl))
    clear hb
    go_wp2_with (go_at_call 5; go_in)
    refine (ilen_str s HZ.out _).mono ?_
    rintro e w2 ⟨rfl, hb⟩
    have HB2 := Aside0.mk (HB.out.trans (hb.mono HB.out.size))
    clear hb
    go_wp2_with fail
    refine (alive_any _).mono ?_
    rintro e w3 ⟨rfl, hb⟩
    have HB3 := Aside0.mk (HB2.out.trans (hb.mono HB2.out.size))
    clear hb
    go_wp2
    go_ret
    exact ⟨rfl, HB3.out⟩
  · exact (less_not_eq s t hE hL).elim

/-- The law on texts answers true at every two texts and each comparison. -/
theorem fnTexts_any (op : Int) (s t : ByteArray) (h0 : 0 ≤ op) (h1 : op ≤ 255) (hs : s.size ≤ maxLen) (ht : t.size ≤ maxLen) (w : World) :
    Calls Tryz.prog 3 #[.int .u8 op, .string s, .string t] w fun e w' => e = .returned (.bool true) ∧ Below w.heap.size w w' := by
  unfold maxLen at hs ht
  by_cases c1 : 2147483647 < (s.size : Int)
  · exact ft_longa op s t (by omega) (by omega) c1 w
  by_cases c2 : 2147483647 < (t.size : Int)
  · exact ft_longb op s t (by omega) (by omega) (by omega) c2 w
  by_cases c3 : 100 < (s.size : Int)
  · exact ft_longc op s t (by omega) (by omega) (by omega) (by omega) c3 w
  by_cases c4 : 100 < (t.size : Int)
  · exact ft_longd op s t (by omega) (by omega) (by omega) (by omega) c4 w
  have hk : op % 6 = 0 ∨ op % 6 = 1 ∨ op % 6 = 2 ∨ op % 6 = 3 ∨ op % 6 = 4 ∨ op % 6 = 5 := by omega
  rcases hk with h | h | h | h | h | h
  · exact ft_main0 op h0 h1 h s t (by omega) (by omega) w
  · exact ft_main1 op h0 h1 h s t (by omega) (by omega) w
  · exact ft_main2 op h0 h1 h s t (by omega) (by omega) w
  · exact ft_main3 op h0 h1 h s t (by omega) (by omega) w
  · exact ft_main4 op h0 h1 h s t (by omega) (by omega) w
  · exact ft_main5 op h0 h1 h s t (by omega) (by omega) w
end Go.Proofs.YtfppllbmieenfaaGreatDoor

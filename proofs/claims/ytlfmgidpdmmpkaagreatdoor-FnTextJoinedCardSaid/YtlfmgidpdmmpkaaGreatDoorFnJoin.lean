/- The law on two texts one behind the other answers true at every two texts. -/
import Derived.Test.YtlfmgidpdmmpkaaGreatDoorQuoted
import Derived.Test.YtlfmgidpdmmpkaaGreatDoorBin
import Derived.Test.YtlfmgidpdmmpkaaGreatDoorTextsB
namespace Go.Proofs.YtlfmgidpdmmpkaaGreatDoor
open Go Go.RowKit Go.Proofs.YtlfmgidpdmmpkaaGreatDoorW.PrintWords Ps
set_option linter.unusedVariables false
set_option linter.unusedSimpArgs false

theorem lit_q (s : ByteArray) (how : List Int) (hs : s.size ≤ 100) (r : ByteArray) (hb : bytesOf r = 34 :: (quL (pairs s how 0 s.size) ++ [34])) (hr : r.size ≤ 4096) (t : TypeId) (v : Value) (w : World) (hE : ErrAt w t v) (hT : Lib.Utf8Tabs 8 9 w) :
    Calls Tryz.prog 4 #[.string r, .int .i64 4] w fun e w' => e = .returned (strI s) ∧ Below w.heap.size w w' := by
  obtain ⟨hV, h39, rem, hu, h0⟩ := unqF_quot r (pairs s how 0 s.size) (pairs_range s how s.size 0) hb
  refine (literal_str r s w fun W hW => mfl_str_ok r s W (unquote_ok r s rem h0 W ?_)).mono fun e w' h => h
  have h := unquote_all r hr hV h39 t v W (err_below hE hW) (fun W2 hW2 => tabs_below hT (hW.trans (hW2.mono hW.size)))
  rw [hu, pairs_all] at h
  have e : unqRes r t v (some (bytesOf s, rem)) = unqOk s rem := by show unqOk (strOfNums (bytesOf s)) rem = _; rw [strOf_bytes]
  rw [e] at h
  exact h
theorem quB_most (l : List (Int × Int)) : (quL l).length ≤ 10 * l.length := by
  induction l with
  | nil => simp [quL]
  | cons x l ih =>
    obtain ⟨k, c⟩ := x
    have := quB_len k c
    rw [quL, List.length_append, List.length_cons]
    omega
theorem pairs_len (s : ByteArray) (how : List Int) : ∀ (d i : Nat), (pairs s how i d).length = d := by
  intro d
  induction d with
  | zero => intro i; rfl
  | succ d ih => intro i; rw [pairs, List.length_cons, ih]
/-- A literal of a text: the call of laws.quoted, and its text's size. -/
theorem quoted_calls (s : ByteArray) (how : List Int) (hs : s.size ≤ 100) (hw : ∀ x ∈ how, 0 ≤ x ∧ x ≤ 255) :
    ∃ r, bytesOf r = 34 :: (quL (pairs s how 0 s.size) ++ [34]) ∧ r.size ≤ 4096 ∧ ∀ (A : Option Addr) (c : Nat) (w : World), (Kd.int .u8).C w A how.length how → how.length ≤ c → Calls Tryz.prog 5 #[.string s, .slice A how.length c] w fun e w' => e = .returned (.string r) ∧ Below w.heap.size w w' := by
  obtain ⟨r, hr, hb⟩ := quoted_any s how (by omega) hw
  refine ⟨r, hb, ?_, fun A c w hC hc => laws_quoted.calls 6000 s A c how r w hC hc hr⟩
  have h1 := size_of_bytes hb
  have h2 := quB_most (pairs s how 0 s.size)
  rw [pairs_len] at h2
  simp only [List.length_cons, List.length_append, List.length_nil] at h1
  omega
def CallJ (f : FuncId) (args : Array Value) (w : World) (v : Value) : Prop := ∀ W, Below w.heap.size w W → Calls Tryz.prog f args W fun e w' => e = .returned v ∧ Below W.heap.size W w'
set_option maxRecDepth 100000 in
set_option maxHeartbeats 1000000 in
theorem fj_walk (s t r1 r2 r3 : ByteArray) (hs : s.size ≤ 40) (ht : t.size ≤ 40) (A : Option Addr) (n c : Nat) (hl : n ≤ 80) (w : World)
    (hq1 : CallJ 5 #[.string s, .slice A n c] w (.string r1)) (hl1 : CallJ 4 #[.string r1, .int .i64 4] w (strI s))
    (hq2 : CallJ 5 #[.string t, .slice none 0 0] w (.string r2)) (hl2 : CallJ 4 #[.string r2, .int .i64 4] w (strI t))
    (hbi : CallJ 6 #[.int .i64 0, strI s, strI t] w (strI (s ++ t)))
    (hq3 : CallJ 5 #[.string (s ++ t), .slice A n c] w (.string r3)) (hl3 : CallJ 4 #[.string r3, .int .i64 4] w (strI (s ++ t)))
    (hcm : CallJ 7 #[.int .i64 0, strI (s ++ t), strI (s ++ t)] w (.bool true)) :
    Calls Tryz.prog 3 #[.string s, .string t, .slice A n c] w fun e w' => e = .returned (.bool true) ∧ Below w.heap.size w w' := by
  have h6 : (s.size : Int) ≤ 40 := by omega
  have h7 : (t.size : Int) ≤ 40 := by omega
  have h8 : (n : Int) ≤ 80 := by omega
  have HQ1 := Aside0.mk hq1
  have HL1 := Aside0.mk hl1
  have HQ2 := Aside0.mk hq2
  have HL2 := Aside0.mk hl2
  have HBI := Aside0.mk hbi
  have HQ3 := Aside0.mk hq3
  have HL3 := Aside0.mk hl3
  have HCM := Aside0.mk hcm
  clear hq1 hl1 hq2 hl2 hbi hq3 hl3 hcm
  go_enter Tryz.func3, Tryz.ntmps3
  go_wp2_with fail
  refine (HQ1.out _ (Below.refl _ _)).mono ?_
  rintro e w1 ⟨rfl, hb⟩
  have HB1 := Aside0.mk hb
  clear hb
  go_wp2_with fail
  refine (HL1.out _ HB1.out).mono ?_
  rintro e w2 ⟨rfl, hb⟩
  have HB2 := Aside0.mk (HB1.out.trans (hb.mono HB1.out.size))
  clear hb HB1
  go_wp2_with fail
  refine (HQ2.out _ HB2.out).mono ?_
  rintro e w3 ⟨rfl, hb⟩
  have HB3 := Aside0.mk (HB2.out.trans (hb.mono HB2.out.size))
  clear hb HB2
  go_wp2_with fail
  refine (HL2.out _ HB3.out).mono ?_
  rintro e w4 ⟨rfl, hb⟩
  have HB4 := Aside0.mk (HB3.out.trans (hb.mono HB3.out.size))
  clear hb HB3
  go_wp2_with fail
  refine (HBI.out _ (below_alloc (below_alloc HB4.out _) _)).mono ?_
  rintro e w5 ⟨rfl, hb⟩
  have hB5 : Below w.heap.size w w5 := (below_alloc (below_alloc HB4.out _) _).trans (hb.mono (below_alloc (below_alloc HB4.out _) _).size)
  have HB5 := Aside0.mk hB5
  clear hb HB4 hB5
  go_wp2_with fail
  refine (HQ3.out _ (below_alloc HB5.out _)).mono ?_
  rintro e w6 ⟨rfl, hb⟩
  have hB6 : Below w.heap.size w w6 := (below_alloc HB5.out _).trans (hb.mono (below_alloc HB5.out _).size)
  have HB6 := Aside0.mk hB6
  have e6 : ∀ i, w6.cell? ⟨w5.heap.size, i, none⟩ = (#[.int .i64 2, .bool false, .string (s ++ t), .bool false, .slice none 0 0, .slice none 0 0, .bool false, .slice none 0 0, .slice none 0 0] : Array Value)[i]? := fun i => (hb.cell (p := ⟨w5.heap.size, i, none⟩) (by simp)).trans (cn rfl)
  have z6 : w5.heap.size < w6.heap.size := by have := hb.size; simp at this; omega
  have HE6 := Aside0.mk (And.intro z6 e6)
  clear hb HB5 hB6 e6 z6
  go_wp2_with fail
  refine (HL3.out _ HB6.out).mono ?_
  rintro e w7 ⟨rfl, hb⟩
  have HB7 := Aside0.mk (HB6.out.trans (hb.mono HB6.out.size))
  have z7 : w5.heap.size < w7.heap.size := Nat.lt_of_lt_of_le HE6.out.1 hb.size
  have e7 : ∀ i, w7.cell? ⟨w5.heap.size, i, none⟩ = (#[.int .i64 2, .bool false, .string (s ++ t), .bool false, .slice none 0 0, .slice none 0 0, .bool false, .slice none 0 0, .slice none 0 0] : Array Value)[i]? := fun i => (hb.cell (p := ⟨w5.heap.size, i, none⟩) HE6.out.1).trans (HE6.out.2 i)
  have k0 := e7 0
  have k1 := e7 1
  have k2 := e7 2
  have k3 := e7 3
  have k4 := e7 4
  have k5 := e7 5
  have k6 := e7 6
  have k7 := e7 7
  have k8 := e7 8
  simp only [List.getElem?_toArray, List.getElem?_cons_zero, List.getElem?_cons_succ] at k0 k1 k2 k3 k4 k5 k6 k7 k8
  clear hb HB6 HE6 e7
  go_wp2_with fail
  refine (HCM.out _ (below_alloc HB7.out _)).mono ?_
  rintro e w8 ⟨rfl, hb⟩
  have hB8 : Below w.heap.size w w8 := (below_alloc HB7.out _).trans (hb.mono (below_alloc HB7.out _).size)
  have HB8 := Aside0.mk hB8
  clear hb hB8
  go_wp2
  go_ret
  exact ⟨rfl, HB8.out⟩
set_option maxRecDepth 100000 in
set_option maxHeartbeats 1000000 in
theorem fj_la (s t : ByteArray) (A : Option Addr) (n c : Nat) (w : World) (hs : s.size ≤ 9223372036854775807) (ht : t.size ≤ 9223372036854775807) (hn : n ≤ 9223372036854775807) (h0 : 2147483647 < (s.size : Int)) :
    Calls Tryz.prog 3 #[.string s, .string t, .slice A n c] w fun e w' => e = .returned (.bool true) ∧ Below w.heap.size w w' := by
  go_enter Tryz.func3, Tryz.ntmps3
  go_wp2
  go_ret
  exact ⟨rfl, Below.refl _ _⟩
set_option maxRecDepth 100000 in
set_option maxHeartbeats 1000000 in
theorem fj_lb (s t : ByteArray) (A : Option Addr) (n c : Nat) (w : World) (hs : s.size ≤ 9223372036854775807) (ht : t.size ≤ 9223372036854775807) (hn : n ≤ 9223372036854775807) (h0 : (s.size : Int) ≤ 2147483647) (h1 : 2147483647 < (t.size : Int)) :
    Calls Tryz.prog 3 #[.string s, .string t, .slice A n c] w fun e w' => e = .returned (.bool true) ∧ Below w.heap.size w w' := by
  go_enter Tryz.func3, Tryz.ntmps3
  go_wp2
  go_ret
  exact ⟨rfl, Below.refl _ _⟩
set_option maxRecDepth 100000 in
set_option maxHeartbeats 1000000 in
theorem fj_lc (s t : ByteArray) (A : Option Addr) (n c : Nat) (w : World) (hs : s.size ≤ 9223372036854775807) (ht : t.size ≤ 9223372036854775807) (hn : n ≤ 9223372036854775807) (h0 : (s.size : Int) ≤ 2147483647) (h1 : (t.size : Int) ≤ 2147483647) (h2 : 2147483647 < (n : Int)) :
    Calls Tryz.prog 3 #[.string s, .string t, .slice A n c] w fun e w' => e = .returned (.bool true) ∧ Below w.heap.size w w' := by
  go_enter Tryz.func3, Tryz.ntmps3
  go_wp2
  go_ret
  exact ⟨rfl, Below.refl _ _⟩
set_option maxRecDepth 100000 in
set_option maxHeartbeats 1000000 in
theorem fj_ld (s t : ByteArray) (A : Option Addr) (n c : Nat) (w : World) (hs : s.size ≤ 9223372036854775807) (ht : t.size ≤ 9223372036854775807) (hn : n ≤ 9223372036854775807) (h0 : (s.size : Int) ≤ 2147483647) (h1 : (t.size : Int) ≤ 2147483647) (h2 : (n : Int) ≤ 2147483647) (h3 : 40 < (s.size : Int)) :
    Calls Tryz.prog 3 #[.string s, .string t, .slice A n c] w fun e w' => e = .returned (.bool true) ∧ Below w.heap.size w w' := by
  go_enter Tryz.func3, Tryz.ntmps3
  go_wp2
  go_ret
  exact ⟨rfl, Below.refl _ _⟩
set_option maxRecDepth 100000 in
set_option maxHeartbeats 1000000 in
theorem fj_le (s t : ByteArray) (A : Option Addr) (n c : Nat) (w : World) (hs : s.size ≤ 9223372036854775807) (ht : t.size ≤ 9223372036854775807) (hn : n ≤ 9223372036854775807) (h0 : (s.size : Int) ≤ 40) (h1 : (t.size : Int) ≤ 2147483647) (h2 : (n : Int) ≤ 2147483647) (h3 : 40 < (t.size : Int)) :
    Calls Tryz.prog 3 #[.string s, .string t, .slice A n c] w fun e w' => e = .returned (.bool true) ∧ Below w.heap.size w w' := by
  go_enter Tryz.func3, Tryz.ntmps3
  go_wp2
  go_ret
  exact ⟨rfl, Below.refl _ _⟩
set_option maxRecDepth 100000 in
set_option maxHeartbeats 1000000 in
theorem fj_lf (s t : ByteArray) (A : Option Addr) (n c : Nat) (w : World) (hs : s.size ≤ 9223372036854775807) (ht : t.size ≤ 9223372036854775807) (hn : n ≤ 9223372036854775807) (h0 : (s.size : Int) ≤ 40) (h1 : (t.size : Int) ≤ 40) (h2 : (n : Int) ≤ 2147483647) (h3 : 80 < (n : Int)) :
    Calls Tryz.prog 3 #[.string s, .string t, .slice A n c] w fun e w' => e = .returned (.bool true) ∧ Below w.heap.size w w' := by
  go_enter Tryz.func3, Tryz.ntmps3
  go_wp2
  go_ret
  exact ⟨rfl, Below.refl _ _⟩
theorem strEq_self (s : ByteArray) : strEq s s = true := by unfold strEq; simp
theorem fnTextJoined_any (w : World) (s t : ByteArray) (A : Option Addr) (c : Nat) (l : List Int) (hs : s.size ≤ maxLen) (ht : t.size ≤ maxLen) (hm : l.length ≤ maxLen) (hC : ReadsInt w .u8 A l.length l) (hc : l.length ≤ c) (hw : ∀ x ∈ l, (Lit.int .u8 x).wf = true) (te : TypeId) (ve : Value) (hE : ErrAt w te ve) (hT : Lib.Utf8Tabs 8 9 w) :
    Calls Tryz.prog 3 #[.string s, .string t, .slice A l.length c] w fun e w' => e = .returned (.bool true) ∧ Below w.heap.size w w' := by
  unfold maxLen at hs ht hm
  by_cases b1 : 2147483647 < (s.size : Int)
  · exact fj_la s t A _ c w hs ht hm b1
  by_cases b2 : 2147483647 < (t.size : Int)
  · exact fj_lb s t A _ c w hs ht hm (by omega) b2
  by_cases b3 : 2147483647 < (l.length : Int)
  · exact fj_lc s t A _ c w hs ht hm (by omega) (by omega) b3
  by_cases b4 : 40 < (s.size : Int)
  · exact fj_ld s t A _ c w hs ht hm (by omega) (by omega) (by omega) b4
  by_cases b5 : 40 < (t.size : Int)
  · exact fj_le s t A _ c w hs ht hm (by omega) (by omega) (by omega) b5
  by_cases b6 : 80 < (l.length : Int)
  · exact fj_lf s t A _ c w hs ht hm (by omega) (by omega) (by omega) b6
  have hw2 : ∀ x ∈ l, 0 ≤ x ∧ x ≤ 255 := fun x hx => by
    have := hw x hx
    simpa [Lit.wf, IntKind.min, IntKind.max, IntKind.signed, IntKind.bits] using this
  have hK : (Kd.int .u8).C w A l.length l := Kd.C_of_reads (d := (0 : Int)) (h1 := fun _ => rfl) hC
  have hst : (s ++ t).size = s.size + t.size := by simp
  obtain ⟨r1, h1, z1, q1⟩ := quoted_calls s l (by omega) hw2
  obtain ⟨r2, h2, z2, q2⟩ := quoted_calls t [] (by omega) (fun x hx => by simp at hx)
  obtain ⟨r3, h3, z3, q3⟩ := quoted_calls (s ++ t) l (by omega) hw2
  refine fj_walk s t r1 r2 r3 (by omega) (by omega) A l.length c (by omega) w (fun W hb => q1 A c W (Kd.C_below hK hb) hc) ?_ ?_ ?_ ?_ (fun W hb => q3 A c W (Kd.C_below hK hb) hc) ?_ ?_
  · exact fun W hb => lit_q s l (by omega) r1 h1 z1 te ve W (err_below hE hb) (tabs_below hT hb)
  · exact fun W hb => q2 none 0 W (Kd.C_of_reads (d := (0 : Int)) (h1 := fun _ => rfl) (ReadsInt.nil W .u8)) (Nat.le_refl _)
  · exact fun W hb => lit_q t [] (by omega) r2 h2 z2 te ve W (err_below hE hb) (tabs_below hT hb)
  · exact fun W hb => (binary_str s t (by omega) W).mono fun e w' h => h
  · exact fun W hb => lit_q (s ++ t) l (by omega) r3 h3 z3 te ve W (err_below hE hb) (tabs_below hT hb)
  · intro W hb
    have := icmp0 (s ++ t) (s ++ t) W
    rw [strEq_self] at this
    exact this
end Go.Proofs.YtlfmgidpdmmpkaaGreatDoor

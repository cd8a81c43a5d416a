/- The integer that a small literal is: what 'told' gives is the integer of 64 bits that the reference gives. -/
import Derived.Test.YtbcgeeaboecmgaaGreatDoorIsIntB
namespace Go.Proofs.YtbcgeeaboecmgaaGreatDoor
open Go Go.RowKit Go.Proofs.YtbcgeeaboecmgaaGreatDoorW.PrintWords Ps
set_option linter.unusedVariables false
set_option linter.unusedSimpArgs false

theorem own_C {W : World} {B : Nat} {T : TypeId} {v : Value} {ws : List Int} (h : W.ownsRow B T 1 v ws.length (nums .u64 ws)) : ∃ A c, v = .slice A ws.length c ∧ ws.length ≤ c ∧ Kd.C (Kd.int .u64) W A ws.length ws := by
  have hR : Kd.R (Kd.int .u64) T W B (fun _ => True) v ws := Kd.R_of_own h (fun _ _ => trivial)
  have hV := Kd.R_V (base' := 0) hR
  obtain ⟨A, c, rfl⟩ := Kd.V_slice hV
  have := Kd.V_reads' hV
  exact ⟨A, c, rfl, this.2.1, this.2.2⟩

theorem of64_any (n : Int) (h0 : 0 ≤ n) (h1 : n < 9223372036854775808) (w : World) :
    Calls Tryz.prog 9 #[.int .i64 n] w fun e w' => ∃ A1 c1 A2 c2, e = .returned (.agg #[.bool false, .slice A1 (trimL (digs [n])).length c1, .slice A2 1 c2]) ∧ (trimL (digs [n])).length ≤ c1 ∧ 1 ≤ c2 ∧ Kd.C (Kd.int .i64) w' A1 (trimL (digs [n])).length (trimL (digs [n])) ∧ Kd.C (Kd.int .i64) w' A2 1 [1] ∧ Below w.heap.size w w' := by
  have hf : spec_Of64.f 20000 n = some (false, trimL (digs [n]), [1]) := by
    unfold spec_Of64.f
    rw [if_neg (by omega), show IntKind.u64.wrap n = n by (rw [IntKind.wrap_u64]; omega), of_ev [n] (by intro x hx; simp only [List.mem_singleton] at hx; omega) (by simp), small_one]
    rfl
  refine (spec_Of64.calls 20000 n _ _ _ w hf).mono ?_
  rintro e w' ⟨v1, v2, rfl, d1, d2, hb⟩
  obtain ⟨A1, c1, rfl⟩ := Kd.V_slice d1
  have r1 := Kd.V_reads' d1
  have hV := Kd.R_V (base' := 0) d2
  obtain ⟨A2, c2, rfl⟩ := Kd.V_slice hV
  have r2 := Kd.V_reads' hV
  exact ⟨A1, c1, A2, c2, rfl, r1.2.1, r2.2.1, r1.2.2, r2.2.2, hb⟩

theorem digs_wordList (n : Int) : trimL (digs (wordList n)) = trimL (digs [n]) := by
  unfold wordList
  split
  · next h => subst h; decide
  · rfl
theorem normal_wordList (n : Int) (h0 : 0 ≤ n) (h1 : n < 9223372036854775808) : Normal (wordList n) := by
  unfold wordList
  split
  · exact ⟨by simp, by simp⟩
  · next h => exact ⟨by intro x hx; simp only [List.mem_singleton] at hx; omega, by intro _; simpa using h⟩

theorem wordList_length (n : Int) : (wordList n).length ≤ 1 := by unfold wordList; split <;> simp

/-- The number that 'told' gave earlier is the integer that the reference names. -/
theorem isInt_lit (n : Int) (h0 : 0 ≤ n) (h1 : n < 9223372036854775808) (A : Option Addr) (c : Nat) (w : World) (hr : Kd.C (Kd.int .u64) w A (wordList n).length (wordList n)) (hc : (wordList n).length ≤ c)
    (A1 : Option Addr) (c1 : Nat) (A2 : Option Addr) (c2 : Nat) (hc1 : (trimL (digs [n])).length ≤ c1) (hc2 : 1 ≤ c2) (r1 : Kd.C (Kd.int .i64) w A1 (trimL (digs [n])).length (trimL (digs [n]))) (r2 : Kd.C (Kd.int .i64) w A2 1 [1]) :
    Calls Tryz.prog 16 #[toldInt false (.slice A (wordList n).length c), .agg #[.bool false, .slice A1 (trimL (digs [n])).length c1, .slice A2 1 c2]] w fun e w' => e = .returned (.bool true) ∧ Below w.heap.size w w' := by
  refine isInt_any false A c (wordList n) w (normal_wordList n h0 h1) (by have := wordList_length n; omega) rfl hr hc _ (digs_wordList n) ?_ A1 c1 r1 hc1 A2 c2 r2 hc2
  have := trimL_length (digs [n])
  have h4 := digs_length [n]
  simp only [List.length_cons, List.length_nil] at h4
  omega
end Go.Proofs.YtbcgeeaboecmgaaGreatDoor

/- laws.unknown: a value of every kind, and what impl.made makes of it. -/
import Derived.Test.YtbcgeeaboecmgaaGreatDoorCmpU
import Derived.Test.YtbcgeeaboecmgaaGreatDoorSpec

namespace Go.Proofs.YtbcgeeaboecmgaaGreatDoor
open Go Go.RowKit Go.Proofs.YtbcgeeaboecmgaaGreatDoorW.PrintWords Ps
set_option linter.unusedVariables false
set_option linter.unusedSimpArgs false

/-- The word of an integer of 64 bits without its sign. -/
def absW (n : Int) : Int := if n < 0 then -n else n
theorem absW_range {n : Int} (h0 : -9223372036854775808 ≤ n) (h1 : n < 9223372036854775808) : 0 ≤ absW n ∧ absW n < 18446744073709551616 := by unfold absW; split <;> omega
theorem of64_ev (n : Int) (h0 : -9223372036854775808 ≤ n) (h1 : n < 9223372036854775808) : spec_Of64.f 20000 n = some (decide (n < 0), trimL (digs [absW n]), [1]) := by
  unfold spec_Of64.f absW
  by_cases hn : n < 0
  · rw [if_pos hn, if_pos hn, show IntKind.u64.wrap (-(IntKind.u64.wrap n)) = -n by (rw [IntKind.wrap_u64, IntKind.wrap_u64]; omega), of_ev [-n] (by intro x hx; simp only [List.mem_singleton] at hx; omega) (by simp), small_one]
    simp [hn]
  · rw [if_neg hn, if_neg hn, show IntKind.u64.wrap n = n by (rw [IntKind.wrap_u64]; omega), of_ev [n] (by intro x hx; simp only [List.mem_singleton] at hx; omega) (by simp), small_one]
    simp [hn]
theorem words_short (u : Int) (h0 : 0 ≤ u) (h1 : u < 18446744073709551616) : spec_Words.f 20000 (trimL (digs [u])) = some (nl u) := by
  have hlen := trimL_length (digs [u])
  have h4 := digs_length [u]
  simp only [List.length_cons, List.length_nil] at h4
  have hw := words_ev (trimL (digs [u])) (digs_range [u]) (by omega)
  by_cases hu : u = 0
  · subst hu
    rw [hw]
    have : trimL (digs [0]) = [] := by decide
    rw [this]; rfl
  · have hn : nl u = [u] := by unfold nl; rw [if_neg hu]
    rw [hw, hn, wl_digs [u] ⟨by intro x hx; simp only [List.mem_singleton] at hx; omega, by intro _; simpa using hu⟩]
theorem nl_short (u : Int) (h0 : 0 ≤ u) (h1 : u < 18446744073709551616) : Short (nl u) := by
  unfold nl
  split
  · exact .inl rfl
  · exact .inr ⟨u, rfl, by omega, h1⟩
/-- A row of the words of a number, new since B. -/
theorem n1_row {W : World} {B : Nat} {T : TypeId} {v : Value} (u : Int) (h0 : 0 ≤ u) (h1 : u < 18446744073709551616) (h : W.ownsRow B T 1 v (nl u).length (nums .u64 (nl u))) : N1 W v u ∧ (∀ k, v.ownBlock = some k → B ≤ k) := by
  by_cases hu : u = 0
  · subst hu
    have hlt := h.lt
    refine ⟨?_, fun k hk => (hlt k hk).1⟩
    obtain ⟨_, ⟨rfl, _⟩ | ⟨g, cap, cur, rfl, _⟩⟩ := h
    · exact .zero none 0
    · exact .zero _ cap
  · have hn : nl u = [u] := by unfold nl; rw [if_neg hu]
    rw [hn] at h
    have := N1.own (by omega) h1 h
    exact ⟨this.1, fun k hk => (this.2 k hk).1⟩
theorem n1_C {W : World} {A : Option Addr} {c : Nat} {u : Int} (h : N1 W (.slice A (nl u).length c) u) : (Kd.int .u64).C W A (nl u).length (nl u) ∧ (nl u).length ≤ c := by
  obtain ⟨A', c', e, hC, hc⟩ := h.reads
  injection e with e1 e2 e3
  subst e1 e3
  exact ⟨hC, hc⟩
theorem nl1 : nl 1 = [1] := by decide
theorem n1_C1 {W : World} {A : Option Addr} {c : Nat} (h : N1 W (.slice A 1 c) 1) : (Kd.int .u64).C W A 1 [1] ∧ 1 ≤ c := by
  have := n1_C (u := 1) (A := A) (c := c) (W := W) (by rw [nl1]; exact h)
  rw [nl1] at this
  exact this
/-- What laws.unknown gives: nine fields of which impl.made makes a value in reach. -/
def UvR (w : World) (e : Ending) (w' : World) : Prop := ∃ (k : Int) (t : Bool) (s : ByteArray) (b1 : Bool) (A1 : Option Addr) (n1 c1 : Nat) (B1 : Option Addr) (m1 d1 : Nat) (b2 : Bool) (A2 : Option Addr) (n2 c2 : Nat) (B2 : Option Addr) (m2 d2 : Nat), e = .returned (.agg #[.int .i64 k, .bool t, .string s, .bool b1, .slice A1 n1 c1, .slice B1 m1 d1, .bool b2, .slice A2 n2 c2, .slice B2 m2 d2]) ∧ Below w.heap.size w w' ∧ ∀ W, Below w'.heap.size w' W → Calls Tryz.prog 13 #[.agg #[.int .i64 k, .bool t, .string s, .bool b1, .slice A1 n1 c1, .slice B1 m1 d1, .bool b2, .slice A2 n2 c2, .slice B2 m2 d2]] W (MadeR Un W)
set_option maxRecDepth 100000 in
set_option maxHeartbeats 1000000 in
theorem unknown_any (kind n : Int) (h0 : -9223372036854775808 ≤ n) (h1 : n < 9223372036854775808) (w : World) :
    Calls Tryz.prog 4 #[.int .u8 kind, .int .i64 n] w (UvR w) := by
  have H6 := Aside0.mk (of64_ev n h0 h1)
  obtain ⟨hr0, hr1⟩ := absW_range h0 h1
  have hl := nl_short (absW n) hr0 hr1
  have hw := words_short (absW n) hr0 hr1
  have HW := Aside0.mk (And.intro hl (And.intro hw (And.intro hr0 hr1)))
  obtain ⟨l, el⟩ : ∃ l, l = nl (absW n) := ⟨_, rfl⟩
  rw [← el] at HW
  replace el := Aside0.mk el
  clear h0 h1 hr0 hr1 hl hw
  go_enter Tryz.func4, Tryz.ntmps4
  go_wp2_with fail
  refine (spec_Of64.calls 20000 n _ _ _ _ H6.out).mono ?_
  rintro e w1 ⟨v1, v2, rfl, d1, d2, hb⟩
  obtain ⟨A1, c1, rfl⟩ := Kd.V_slice d1
  have r1 := Kd.V_reads' d1
  obtain ⟨A2, c2, rfl⟩ := Kd.V_slice (Kd.R_V (base' := 0) d2)
  have e0 : ∀ i, w1.cell? ⟨w.heap.size, i, none⟩ = (#[.int .i64 0, .bool false, .string { data := #[] }, .bool false, .slice none 0 0, .slice none 0 0, .bool false, .slice none 0 0, .slice none 0 0] : Array Value)[i]? := fun i => (hb.cell (p := ⟨w.heap.size, i, none⟩) (by simp)).trans (cn rfl)
  have f0 : ∀ i, w1.frozen? ⟨w.heap.size, i, none⟩ = false := fun i => (hb.frozen (p := ⟨w.heap.size, i, none⟩) (by simp)).trans (fn rfl)
  have HX : Aside0 (Below w.heap.size w w1 ∧ Kd.C (Kd.int .i64) w1 A1 (trimL (digs [absW n])).length (trimL (digs [absW n])) ∧ (trimL (digs [absW n])).length ≤ c1 ∧ w.heap.size < w1.heap.size) := ⟨(below_alloc (Below.refl _ _) _).trans (hb.mono (by simp)), r1.2.2, r1.2.1, Nat.lt_of_lt_of_le (by simp) hb.size⟩
  clear hb d1 d2 r1
  have fl : ∀ w, (Instr.field 36 (.agg #[.bool (decide (n < 0)), .slice A1 (trimL (digs [absW n])).length c1, .slice A2 1 c2]) 1).run Tryz.prog w = .ok (.slice A1 (trimL (digs [absW n])).length c1) w := fun _ => by kernel_rfl
  go_wp2_with fail
  refine (spec_Words.calls 20000 A1 c1 _ l w1 HX.out.2.1 HX.out.2.2.1 HW.out.2.1).mono ?_
  rintro e w2 ⟨v3, rfl, d3, hb⟩
  have hV := Kd.R_V (base' := 0) d3
  obtain ⟨A3, c3, rfl⟩ := Kd.V_slice hV
  have hN := n1_row (W := w2) (absW n) HW.out.2.2.1 HW.out.2.2.2 (by rw [← el.out]; exact Kd.own_of_R d3)
  have e0 := fun i => (hb.cell (p := ⟨w.heap.size, i, none⟩) HX.out.2.2.2).trans (e0 i)
  have f0 := fun i => (hb.frozen (p := ⟨w.heap.size, i, none⟩) HX.out.2.2.2).trans (f0 i)
  have HY : Aside0 (Below w.heap.size w w2 ∧ N1 w2 (.slice A3 l.length c3) (absW n) ∧ (∀ k, (Value.slice A3 l.length c3).ownBlock = some k → k ≠ w.heap.size) ∧ w.heap.size < w2.heap.size) := ⟨HX.out.1.trans (hb.mono HX.out.1.size), hN.1, fun k hk => by have := hN.2 k hk; have := HX.out.2.2.2; omega, Nat.lt_of_lt_of_le HX.out.2.2.2 hb.size⟩
  clear hb d3 hV hN fl
  clear HX
  have a0 : w2.cell? ⟨w.heap.size, 0, none⟩ = some (.int .i64 0) := e0 0
  have a1 : w2.cell? ⟨w.heap.size, 1, none⟩ = some (.bool false) := e0 1
  have a2 : w2.cell? ⟨w.heap.size, 2, none⟩ = some (.string ⟨#[]⟩) := e0 2
  have a3 : w2.cell? ⟨w.heap.size, 3, none⟩ = some (.bool false) := e0 3
  have a4 : w2.cell? ⟨w.heap.size, 4, none⟩ = some (.slice none 0 0) := e0 4
  have a5 : w2.cell? ⟨w.heap.size, 5, none⟩ = some (.slice none 0 0) := e0 5
  have a6 : w2.cell? ⟨w.heap.size, 6, none⟩ = some (.bool false) := e0 6
  have a7 : w2.cell? ⟨w.heap.size, 7, none⟩ = some (.slice none 0 0) := e0 7
  have a8 : w2.cell? ⟨w.heap.size, 8, none⟩ = some (.slice none 0 0) := e0 8
  have q0 : w2.frozen? ⟨w.heap.size, 0, none⟩ = false := f0 0
  have q1 : w2.frozen? ⟨w.heap.size, 1, none⟩ = false := f0 1
  have q2 : w2.frozen? ⟨w.heap.size, 2, none⟩ = false := f0 2
  have q3 : w2.frozen? ⟨w.heap.size, 3, none⟩ = false := f0 3
  have q4 : w2.frozen? ⟨w.heap.size, 4, none⟩ = false := f0 4
  have q5 : w2.frozen? ⟨w.heap.size, 5, none⟩ = false := f0 5
  have q6 : w2.frozen? ⟨w.heap.size, 6, none⟩ = false := f0 6
  have q7 : w2.frozen? ⟨w.heap.size, 7, none⟩ = false := f0 7
  have q8 : w2.frozen? ⟨w.heap.size, 8, none⟩ = false := f0 8
  have hsz : w.heap.size < w2.heap.size := HY.out.2.2.2
  clear e0 f0
  have m0 : w.heap.size < w2.heap.size + 1 := by omega
  have m1 : w.heap.size < w2.heap.size + 1 + 1 := by omega
  have m2 : w.heap.size ≠ w2.heap.size := by omega
  have m3 : w.heap.size ≠ w2.heap.size + 1 := by omega
  have m4 : w.heap.size ≠ w2.heap.size + 1 + 1 := by omega
  go_wp2_with fail
  · refine bodyPost_ret (v := .agg #[.int .i64 1, .bool (decide (0 < n)), .string ⟨#[]⟩, .bool false, .slice none 0 0, .slice none 0 0, .bool false, .slice none 0 0, .slice none 0 0]) (by simp [results, Tryz.results4, go_sem, a0, a1, a2, a3, a4, a5, a6, a7, a8, m0, m1, m2, m3, m4, hsz, World.cell?_alloc_lt]) rfl ⟨_, _, _, _, _, _, _, _, _, _, _, _, _, _, _, _, _, rfl, ?_, ?_⟩
    · repeat (first | with_reducible exact HY.out.1 | with_reducible refine below_alloc ?_ _ | with_reducible refine Below.setCell ?_ (by simp only []; omega) _)
    · intro W hW
      exact made_1 _ W
  · refine bodyPost_ret (v := .agg #[.int .i64 2, .bool false, .string ⟨#[97]⟩, .bool false, .slice none 0 0, .slice none 0 0, .bool false, .slice none 0 0, .slice none 0 0]) (by simp [results, Tryz.results4, go_sem, a0, a1, a2, a3, a4, a5, a6, a7, a8, m0, m1, m2, m3, m4, hsz, World.cell?_alloc_lt]) rfl ⟨_, _, _, _, _, _, _, _, _, _, _, _, _, _, _, _, _, rfl, ?_, ?_⟩
    · repeat (first | with_reducible exact HY.out.1 | with_reducible refine below_alloc ?_ _ | with_reducible refine Below.setCell ?_ (by simp only []; omega) _)
    · intro W hW
      exact made_2 ⟨#[97]⟩ (not_empty (by decide)) W
  · refine bodyPost_ret (v := .agg #[.int .i64 3, .bool false, .string ⟨#[]⟩, .bool (decide (n < 0)), .slice A3 l.length c3, .slice none 0 0, .bool false, .slice none 0 0, .slice none 0 0]) (by simp [results, Tryz.results4, go_sem, a0, a1, a2, a3, a4, a5, a6, a7, a8, m0, m1, m2, m3, m4, hsz, World.cell?_alloc_lt]) rfl ⟨_, _, _, _, _, _, _, _, _, _, _, _, _, _, _, _, _, rfl, ?_, ?_⟩
    · repeat (first | with_reducible exact HY.out.1 | with_reducible refine below_alloc ?_ _ | with_reducible refine Below.setCell ?_ (by simp only []; omega) _)
    · intro W hW
      have hN : N1 W (.slice A3 l.length c3) (absW n) := by
        refine N1.below ?_ hW
        refine N1.below ?_ (below_alloc (Below.refl _ _) _)
        refine N1.kept (g := w.heap.size) HY.out.2.1 ?_ HY.out.2.2.1
        repeat (first | with_reducible exact Kept1.refl _ _ | with_reducible refine Kept1.set ?_ _ _ _ (.inl rfl))
      rw [el.out] at hN ⊢
      have hC := n1_C hN
      exact made_3 (decide (n < 0)) A3 c3 _ (by rw [← el.out]; exact HW.out.1) W hC.1 hC.2
  · refine bodyPost_ret (v := .agg #[.int .i64 4, .bool false, .string ⟨#[]⟩, .bool (decide (n < 0)), .slice A3 l.length c3, .slice (some ⟨w2.heap.size + 1, 0, none⟩) 1 1, .bool false, .slice none 0 0, .slice none 0 0]) (by simp [results, Tryz.results4, go_sem, a0, a1, a2, a3, a4, a5, a6, a7, a8, m0, m1, m2, m3, m4, hsz, World.cell?_alloc_lt]) rfl ⟨_, _, _, _, _, _, _, _, _, _, _, _, _, _, _, _, _, rfl, ?_, ?_⟩
    · repeat (first | with_reducible exact HY.out.1 | with_reducible refine below_alloc ?_ _ | with_reducible refine Below.setCell ?_ (by simp only []; omega) _)
    · intro W hW
      have hN : N1 W (.slice A3 l.length c3) (absW n) := by
        refine N1.below ?_ hW
        refine N1.below ?_ (below_alloc (Below.refl _ _) _)
        refine N1.below ?_ (below_alloc (Below.refl _ _) _)
        refine N1.kept (g := w.heap.size) HY.out.2.1 ?_ HY.out.2.2.1
        repeat (first | with_reducible exact Kept1.refl _ _ | with_reducible refine Kept1.set ?_ _ _ _ (.inl rfl))
      rw [el.out] at hN ⊢
      have hC := n1_C hN
      have hD : N1 W (.slice (some ⟨w2.heap.size + 1, 0, none⟩) 1 1) 1 := by
        refine N1.below ?_ hW
        refine .one _ 1 1 (by decide) (by decide) (by decide) ?_ ?_
        · exact (cn (by simp)).trans rfl
        · exact fn (by simp)
      have hDC := n1_C1 hD
      exact made_4 (decide (n < 0)) A3 c3 _ (by rw [← el.out]; exact HW.out.1) _ _ W hC.1 hC.2 hDC.1 hDC.2
  · refine bodyPost_ret (v := .agg #[.int .i64 5, .bool false, .string ⟨#[]⟩, .bool (decide (n < 0)), .slice A3 l.length c3, .slice (some ⟨w2.heap.size + 1, 0, none⟩) 1 1, .bool (decide (n < 0)), .slice A3 l.length c3, .slice (some ⟨w2.heap.size + 1 + 1, 0, none⟩) 1 1]) (by simp [results, Tryz.results4, go_sem, a0, a1, a2, a3, a4, a5, a6, a7, a8, m0, m1, m2, m3, m4, hsz, World.cell?_alloc_lt]) rfl ⟨_, _, _, _, _, _, _, _, _, _, _, _, _, _, _, _, _, rfl, ?_, ?_⟩
    · repeat (first | with_reducible exact HY.out.1 | with_reducible refine below_alloc ?_ _ | with_reducible refine Below.setCell ?_ (by simp only []; omega) _)
    · intro W hW
      have hN : N1 W (.slice A3 l.length c3) (absW n) := by
        refine N1.below ?_ hW
        refine N1.below ?_ (below_alloc (Below.refl _ _) _)
        refine N1.below ?_ (below_alloc (Below.refl _ _) _)
        refine N1.below ?_ (below_alloc (Below.refl _ _) _)
        refine N1.kept (g := w.heap.size) HY.out.2.1 ?_ HY.out.2.2.1
        repeat (first | with_reducible exact Kept1.refl _ _ | with_reducible refine Kept1.set ?_ _ _ _ (.inl rfl))
      rw [el.out] at hN ⊢
      have hC := n1_C hN
      have hD : N1 W (.slice (some ⟨w2.heap.size + 1, 0, none⟩) 1 1) 1 := by
        refine N1.below ?_ hW
        refine .one _ 1 1 (by decide) (by decide) (by decide) ?_ ?_
        · exact (ca (by simp)).trans ((cn (by simp)).trans rfl)
        · exact (fa (by simp)).trans (fn (by simp))
      have hDC := n1_C1 hD
      have hE : N1 W (.slice (some ⟨w2.heap.size + 1 + 1, 0, none⟩) 1 1) 1 := by
        refine N1.below ?_ hW
        refine .one _ 1 1 (by decide) (by decide) (by decide) ?_ ?_
        · exact (cn (by simp)).trans rfl
        · exact fn (by simp)
      have hEC := n1_C1 hE
      exact made_5 (decide (n < 0)) A3 c3 _ (by rw [← el.out]; exact HW.out.1) _ _ _ _ W hC.1 hC.2 hDC.1 hDC.2 hEC.1 hEC.2
  · refine bodyPost_ret (v := .agg #[.int .i64 0, .bool false, .string ⟨#[]⟩, .bool false, .slice none 0 0, .slice none 0 0, .bool false, .slice none 0 0, .slice none 0 0]) (by simp [results, Tryz.results4, go_sem, a0, a1, a2, a3, a4, a5, a6, a7, a8, m0, m1, m2, m3, m4, hsz, World.cell?_alloc_lt]) rfl ⟨_, _, _, _, _, _, _, _, _, _, _, _, _, _, _, _, _, rfl, ?_, ?_⟩
    · repeat (first | with_reducible exact HY.out.1 | with_reducible refine below_alloc ?_ _ | with_reducible refine Below.setCell ?_ (by simp only []; omega) _)
    · intro W hW
      exact made_0 W
end Go.Proofs.YtbcgeeaboecmgaaGreatDoor

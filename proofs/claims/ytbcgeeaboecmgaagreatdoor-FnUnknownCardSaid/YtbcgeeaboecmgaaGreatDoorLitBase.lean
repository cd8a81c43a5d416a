/- impl.Literal over a contract of MakeFromLiteral: an integer, the unknown value. -/
import Derived.Test.YtbcgeeaboecmgaaGreatDoorLitInt
namespace Go.Proofs.YtbcgeeaboecmgaaGreatDoor
open Go Go.RowKit Go.Proofs.YtbcgeeaboecmgaaGreatDoorW.PrintWords Ps
set_option linter.unusedVariables false
set_option linter.unusedSimpArgs false

def unkVal : Value := .iface 63 (.agg #[])

/-- A row of numbers of its own, read only from now on. -/
abbrev UV (W : World) (B : Nat) (v : Value) (l : List Int) : Prop := Kd.V (Kd.int .u64) 0 W 0 (fun k => B ≤ k) v l
theorem own_UV {W : World} {B : Nat} {T : TypeId} {v : Value} {ws : List Int} (h : W.ownsRow B T 1 v ws.length (nums .u64 ws)) : UV W B v ws := by
  have hok : ∀ k, v.ownBlock = some k → B ≤ k := by
    intro k hk
    rcases h.2 with ⟨rfl, _⟩ | ⟨g, cap, cur, rfl, hg, _⟩
    · simp [Value.ownBlock] at hk
    · have : g = k := by simpa [Value.ownBlock] using hk
      omega
  have hR : Kd.R (Kd.int .u64) T W B (fun k => B ≤ k) v ws := Kd.R_of_own h hok
  have hV := Kd.R_V (base' := 0) hR
  exact hV
theorem UV.lower {W : World} {B B' : Nat} {v : Value} {l : List Int} (h : UV W B v l) (hb : B' ≤ B) : UV W B' v l := Kd.V_mono h (fun k hk => Nat.le_trans hb hk)
theorem UV.far {W : World} {B b i : Nat} {u v : Value} {l : List Int} (h : UV W B v l) (hb : b < B) : UV (W.setCell ⟨b, i, none⟩ u) B v l := Kd.V_far h (fun k hk => Nat.ne_of_gt (Nat.lt_of_lt_of_le hb hk)) u
theorem UV.below {W W1 : World} {B : Nat} {v : Value} {l : List Int} (h : UV W B v l) (hb : Below W.heap.size W W1) : UV W1 B v l := Kd.V_below h hb

set_option maxRecDepth 100000 in
set_option maxHeartbeats 4000000 in
theorem literal_unknown (s : ByteArray) (w : World) (hM : ∀ W, Below w.heap.size w W → Calls Tryz.prog 73 #[.string s, .int .i64 8, .int .u64 0] W fun e w' => e = .returned unkVal ∧ Below W.heap.size W w') :
    Calls Tryz.prog 17 #[.string s, .int .i64 3] w fun e w' => e = .returned toldUnknown ∧ Below w.heap.size w w' := by
  have HM := Aside0.mk hM
  clear hM
  go_enter Tryz.func17, Tryz.ntmps17
  go_wp2_with fail
  refine (HM.out _ (below_alloc (below_alloc (Below.refl _ _) _) _)).mono ?_
  rintro e w1 ⟨rfl, hb1⟩
  have HB1 := Aside0.mk (show Below w.heap.size w w1 from (below_alloc (below_alloc (Below.refl _ _) _) _).trans (hb1.mono (by simp <;> omega)))
  have hz1 := hb1.size
  simp only [World.size_alloc] at hz1
  have e1 : ∀ i, w1.cell? ⟨w.heap.size, i, none⟩ = (#[.int .i64 0, .bool false, .string { data := #[] }, .bool false, .slice none 0 0, .slice none 0 0, .bool false, .slice none 0 0, .slice none 0 0] : Array Value)[i]? := fun i => (hb1.cell (p := ⟨w.heap.size, i, none⟩) (by simp only [World.size_alloc]; omega)).trans ((ca (by simp)).trans (cn rfl))
  have f1 : ∀ i, w1.frozen? ⟨w.heap.size, i, none⟩ = false := fun i => (hb1.frozen (p := ⟨w.heap.size, i, none⟩) (by simp only [World.size_alloc]; omega)).trans ((fa (by simp)).trans (fn rfl))
  have HE1 := Aside0.mk e1
  have HF1 := Aside0.mk f1
  clear hb1 e1 f1
  go_wp2_with fail
  refine (told_unknown w1).mono ?_
  rintro e w2 ⟨rfl, hb2⟩
  have HB2 := Aside0.mk (HB1.out.trans (hb2.mono (by omega)))
  have hz2 := hb2.size
  have e2 : ∀ i, w2.cell? ⟨w.heap.size, i, none⟩ = (#[.int .i64 0, .bool false, .string { data := #[] }, .bool false, .slice none 0 0, .slice none 0 0, .bool false, .slice none 0 0, .slice none 0 0] : Array Value)[i]? := fun i => (hb2.cell (p := ⟨w.heap.size, i, none⟩) (by simp only []; omega)).trans (HE1.out i)
  have f2 : ∀ i, w2.frozen? ⟨w.heap.size, i, none⟩ = false := fun i => (hb2.frozen (p := ⟨w.heap.size, i, none⟩) (by simp only []; omega)).trans (HF1.out i)
  clear hb2 HE1 HF1
  unfold toldUnknown
  go_wp2
  refine bodyPost_ret (v := toldUnknown) (by simp [toldUnknown, results, Tryz.results17, go_sem, e2, f2]) rfl ⟨rfl, ?_⟩
  exact (((((((((HB2.out.setCell (by simp) _).setCell (by simp) _).setCell (by simp) _).setCell (by simp) _).setCell (by simp) _).setCell (by simp) _).setCell (by simp) _).setCell (by simp) _).setCell (by simp) _)
set_option maxRecDepth 100000 in
set_option maxHeartbeats 4000000 in
theorem literal_int (s : ByteArray) (n : Int) (h0 : 0 ≤ n) (h1 : n ≤ 9223372036854775807) (w : World) (hM : ∀ W, Below w.heap.size w W → Calls Tryz.prog 73 #[.string s, .int .i64 8, .int .u64 0] W fun e w' => e = .returned (.iface 65 (.int .i64 n)) ∧ Below W.heap.size W w') :
    Calls Tryz.prog 17 #[.string s, .int .i64 3] w fun e w' => ∃ A c, e = .returned (toldInt false (.slice A (wordList n).length c)) ∧ UV w' w.heap.size (.slice A (wordList n).length c) (wordList n) ∧ Below w.heap.size w w' := by
  have HM := Aside0.mk hM
  clear hM
  have HN := Aside0.mk (And.intro h0 h1)
  clear h0 h1
  go_enter Tryz.func17, Tryz.ntmps17
  go_wp2_with fail
  refine (HM.out _ (below_alloc (below_alloc (Below.refl _ _) _) _)).mono ?_
  rintro e w1 ⟨rfl, hb1⟩
  have HB1 := Aside0.mk (show Below w.heap.size w w1 from (below_alloc (below_alloc (Below.refl _ _) _) _).trans (hb1.mono (by simp <;> omega)))
  have hz1 := hb1.size
  simp only [World.size_alloc] at hz1
  have e1 : ∀ i, w1.cell? ⟨w.heap.size, i, none⟩ = (#[.int .i64 0, .bool false, .string { data := #[] }, .bool false, .slice none 0 0, .slice none 0 0, .bool false, .slice none 0 0, .slice none 0 0] : Array Value)[i]? := fun i => (hb1.cell (p := ⟨w.heap.size, i, none⟩) (by simp only [World.size_alloc]; omega)).trans ((ca (by simp)).trans (cn rfl))
  have f1 : ∀ i, w1.frozen? ⟨w.heap.size, i, none⟩ = false := fun i => (hb1.frozen (p := ⟨w.heap.size, i, none⟩) (by simp only [World.size_alloc]; omega)).trans ((fa (by simp)).trans (fn rfl))
  have HE1 := Aside0.mk e1
  have HF1 := Aside0.mk f1
  clear hb1 e1 f1
  go_wp2_with fail
  refine (told_int64 n HN.out.1 HN.out.2 w1).mono ?_
  rintro e w2 ⟨v, rfl, ho, hb2⟩
  have hv := own_UV ho
  obtain ⟨A, c, rfl⟩ := Kd.V_slice hv
  have HV := Aside0.mk (hv.lower (B' := w.heap.size + 1) (by omega))
  clear ho hv
  have HB2 := Aside0.mk (HB1.out.trans (hb2.mono (by omega)))
  have hz2 := hb2.size
  have e2 : ∀ i, w2.cell? ⟨w.heap.size, i, none⟩ = (#[.int .i64 0, .bool false, .string { data := #[] }, .bool false, .slice none 0 0, .slice none 0 0, .bool false, .slice none 0 0, .slice none 0 0] : Array Value)[i]? := fun i => (hb2.cell (p := ⟨w.heap.size, i, none⟩) (by simp only []; omega)).trans (HE1.out i)
  have f2 : ∀ i, w2.frozen? ⟨w.heap.size, i, none⟩ = false := fun i => (hb2.frozen (p := ⟨w.heap.size, i, none⟩) (by simp only []; omega)).trans (HF1.out i)
  clear hb2 HE1 HF1
  unfold toldInt
  go_wp2
  refine bodyPost_ret (v := toldInt false (.slice A (wordList n).length c)) (by simp [toldInt, results, Tryz.results17, go_sem, e2, f2]) rfl ⟨A, c, rfl, ?_, ?_⟩
  · refine UV.lower (B := w.heap.size + 1) ?_ (by omega)
    exact (UV.far (UV.far (UV.far (UV.far (UV.far (UV.far (UV.far (UV.far (UV.far HV.out (Nat.lt_succ_self _)) (Nat.lt_succ_self _)) (Nat.lt_succ_self _)) (Nat.lt_succ_self _)) (Nat.lt_succ_self _)) (Nat.lt_succ_self _)) (Nat.lt_succ_self _)) (Nat.lt_succ_self _)) (Nat.lt_succ_self _))
  · exact (((((((((HB2.out.setCell (by simp) _).setCell (by simp) _).setCell (by simp) _).setCell (by simp) _).setCell (by simp) _).setCell (by simp) _).setCell (by simp) _).setCell (by simp) _).setCell (by simp) _)

set_option maxRecDepth 100000 in
set_option maxHeartbeats 4000000 in
theorem literal_int0 (s : ByteArray) (n : Int) (h0 : 0 ≤ n) (h1 : n ≤ 9223372036854775807) (w : World) (hM : ∀ W, Below w.heap.size w W → Calls Tryz.prog 73 #[.string s, .int .i64 5, .int .u64 0] W fun e w' => e = .returned (.iface 65 (.int .i64 n)) ∧ Below W.heap.size W w') :
    Calls Tryz.prog 17 #[.string s, .int .i64 0] w fun e w' => ∃ A c, e = .returned (toldInt false (.slice A (wordList n).length c)) ∧ UV w' w.heap.size (.slice A (wordList n).length c) (wordList n) ∧ Below w.heap.size w w' := by
  have HM := Aside0.mk hM
  clear hM
  have HN := Aside0.mk (And.intro h0 h1)
  clear h0 h1
  go_enter Tryz.func17, Tryz.ntmps17
  go_wp2_with fail
  refine (HM.out _ (below_alloc (below_alloc (Below.refl _ _) _) _)).mono ?_
  rintro e w1 ⟨rfl, hb1⟩
  have HB1 := Aside0.mk (show Below w.heap.size w w1 from (below_alloc (below_alloc (Below.refl _ _) _) _).trans (hb1.mono (by simp <;> omega)))
  have hz1 := hb1.size
  simp only [World.size_alloc] at hz1
  have e1 : ∀ i, w1.cell? ⟨w.heap.size, i, none⟩ = (#[.int .i64 0, .bool false, .string { data := #[] }, .bool false, .slice none 0 0, .slice none 0 0, .bool false, .slice none 0 0, .slice none 0 0] : Array Value)[i]? := fun i => (hb1.cell (p := ⟨w.heap.size, i, none⟩) (by simp only [World.size_alloc]; omega)).trans ((ca (by simp)).trans (cn rfl))
  have f1 : ∀ i, w1.frozen? ⟨w.heap.size, i, none⟩ = false := fun i => (hb1.frozen (p := ⟨w.heap.size, i, none⟩) (by simp only [World.size_alloc]; omega)).trans ((fa (by simp)).trans (fn rfl))
  have HE1 := Aside0.mk e1
  have HF1 := Aside0.mk f1
  clear hb1 e1 f1
  go_wp2_with fail
  refine (told_int64 n HN.out.1 HN.out.2 w1).mono ?_
  rintro e w2 ⟨v, rfl, ho, hb2⟩
  have hv := own_UV ho
  obtain ⟨A, c, rfl⟩ := Kd.V_slice hv
  have HV := Aside0.mk (hv.lower (B' := w.heap.size + 1) (by omega))
  clear ho hv
  have HB2 := Aside0.mk (HB1.out.trans (hb2.mono (by omega)))
  have hz2 := hb2.size
  have e2 : ∀ i, w2.cell? ⟨w.heap.size, i, none⟩ = (#[.int .i64 0, .bool false, .string { data := #[] }, .bool false, .slice none 0 0, .slice none 0 0, .bool false, .slice none 0 0, .slice none 0 0] : Array Value)[i]? := fun i => (hb2.cell (p := ⟨w.heap.size, i, none⟩) (by simp only []; omega)).trans (HE1.out i)
  have f2 : ∀ i, w2.frozen? ⟨w.heap.size, i, none⟩ = false := fun i => (hb2.frozen (p := ⟨w.heap.size, i, none⟩) (by simp only []; omega)).trans (HF1.out i)
  clear hb2 HE1 HF1
  unfold toldInt
  go_wp2
  refine bodyPost_ret (v := toldInt false (.slice A (wordList n).length c)) (by simp [toldInt, results, Tryz.results17, go_sem, e2, f2]) rfl ⟨A, c, rfl, ?_, ?_⟩
  · refine UV.lower (B := w.heap.size + 1) ?_ (by omega)
    exact (UV.far (UV.far (UV.far (UV.far (UV.far (UV.far (UV.far (UV.far (UV.far HV.out (Nat.lt_succ_self _)) (Nat.lt_succ_self _)) (Nat.lt_succ_self _)) (Nat.lt_succ_self _)) (Nat.lt_succ_self _)) (Nat.lt_succ_self _)) (Nat.lt_succ_self _)) (Nat.lt_succ_self _)) (Nat.lt_succ_self _))
  · exact (((((((((HB2.out.setCell (by simp) _).setCell (by simp) _).setCell (by simp) _).setCell (by simp) _).setCell (by simp) _).setCell (by simp) _).setCell (by simp) _).setCell (by simp) _).setCell (by simp) _)
end Go.Proofs.YtbcgeeaboecmgaaGreatDoor

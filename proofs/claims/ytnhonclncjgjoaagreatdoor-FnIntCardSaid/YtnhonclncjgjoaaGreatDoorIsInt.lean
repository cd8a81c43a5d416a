/- Joined of: IsInt IsIntB LitInt LitBase Alive. -/
import Derived.Test.YtnhonclncjgjoaaGreatDoorSpec
import Derived.Test.YtnhonclncjgjoaaGreatDoorTold
import Derived.Deep.RegionHeld3
import Derived.Deep.DeepCutAuto
import Derived.Deep.DeepMust
namespace Go.Proofs.YtnhonclncjgjoaaGreatDoor
open Go Go.RowKit Go.Proofs.YtnhonclncjgjoaaGreatDoorW.PrintWords Ps
set_option linter.unusedVariables false
set_option linter.unusedSimpArgs false

abbrev DV (W : World) (B : Nat) (v : Value) (l : List Int) : Prop := Kd.V (Kd.int .i64) 0 W 0 (fun k => B ≤ k) v l

theorem sof_any (A : Option Addr) (n c : Nat) (ws : List Int) (w : World) (hw : ∀ x ∈ ws, 0 ≤ x ∧ x < 18446744073709551616) (hn : ws.length ≤ 900) (hl : n = ws.length) (hc : n ≤ c) (hr : Kd.C (Kd.int .u64) w A ws.length ws) :
    Calls Tryz.prog 35 #[.slice A n c] w fun e w' => ∃ v, e = .returned v ∧ DV w' w.heap.size v (trimL (digs ws)) ∧ Below w.heap.size w w' := by
  subst hl
  exact (spec_Of.calls 20000 A c ws _ w hr hc (of_ev ws hw (by omega))).mono fun e w' ⟨v, he, hv, hb⟩ => ⟨v, he, hv, hb⟩

theorem small_any (w : World) : Calls Tryz.prog 17 #[.int .i64 1] w fun e w' => ∃ v, e = .returned v ∧ DV w' w.heap.size v [1] ∧ Below w.heap.size w w' := by
  exact (spec_Small.calls 20000 1 [1] w small_one).mono fun e w' ⟨v, he, hv, hb⟩ => ⟨v, he, (by have h := Kd.R_V (base' := 0) (Kd.R_mono (Kd.R_bound hv) (fun k hk => hk.2.1)); exact h), hb⟩

theorem DV.below {W W1 : World} {B : Nat} {v : Value} {l : List Int} (h : DV W B v l) (hb : Below W.heap.size W W1) : DV W1 B v l := Kd.V_below h hb
theorem DV.lower {W : World} {B B' : Nat} {v : Value} {l : List Int} (h : DV W B v l) (hb : B' ≤ B) : DV W B' v l := Kd.V_mono h (fun k hk => Nat.le_trans hb hk)
theorem DV.far {W : World} {B : Nat} {v : Value} {l : List Int} (h : DV W B v l) {p : Addr} (hp : p.block < B) (u : Value) : DV (W.setCell p u) B v l := Kd.V_far h (fun k hk => by omega) u
theorem DV.slice {W : World} {B : Nat} {v : Value} {l : List Int} (h : DV W B v l) : ∃ A c, v = .slice A l.length c := Kd.V_slice h
theorem DV.reads {W : World} {B n c : Nat} {A : Option Addr} {l : List Int} (h : DV W B (.slice A n c) l) : n = l.length ∧ n ≤ c ∧ Kd.C (Kd.int .i64) W A l.length l := Kd.V_reads' h

theorem whole_any (neg : Bool) (A : Option Addr) (n c : Nat) (w : World) :
    Calls Tryz.prog 9 #[.bool neg, .slice A n c] w fun e w' => ∃ v, e = .returned (.agg #[.bool (neg && decide (0 < n)), .slice A n c, v]) ∧ DV w' w.heap.size v [1] ∧ Below w.heap.size w w' := by
  by_cases hn : 0 < n <;> cases neg <;> simp only [hn, decide_true, decide_false, Bool.and_true, Bool.and_false, Bool.true_and, Bool.false_and]
  all_goals
    go_enter Tryz.func9, Tryz.ntmps9
    go_wp2_with fail
    refine (small_any _).mono ?_
    rintro e w1 ⟨v, rfl, hv, hbel⟩
    have HV := Aside0.mk hv
    have HB := Aside0.mk hbel
    have hz := hbel.size
    simp only [World.size_alloc] at hz
    have e0 : ∀ i, w1.cell? ⟨w.heap.size, i, none⟩ = (#[.bool false, .slice none 0 0, .slice none 0 0] : Array Value)[i]? := fun i => (hbel.cell (p := ⟨w.heap.size, i, none⟩) (by simp only [World.size_alloc]; omega)).trans (cn rfl)
    have f0 : ∀ i, w1.frozen? ⟨w.heap.size, i, none⟩ = false := fun i => (hbel.frozen (p := ⟨w.heap.size, i, none⟩) (by simp only [World.size_alloc]; omega)).trans (fn rfl)
    clear hv hbel
    obtain ⟨A1, c1, hv⟩ := HV.out.slice
    rw [hv] at HV
    rw [hv]
    clear hv
    go_wp2
    refine bodyPost_ret (v := .agg #[.bool _, .slice A n c, .slice A1 [1].length c1]) (by simp [results, Tryz.results9, go_sem, e0]) rfl ⟨_, rfl, ?_, ?_⟩
    · exact ((((HV.out.lower (B' := w.heap.size + 1) (by simp)).far (by simp) _).far (by simp) _).far (by simp) _).lower (by omega)
    · exact (((below_alloc (Below.refl _ _) _).trans (HB.out.mono (by simp))).setCell (by simp) _).setCell (by simp) _ |>.setCell (by simp) _

theorem isNumber_any (a b : Bool) (A : Option Addr) (c : Nat) (ws : List Int) (A2 : Option Addr) (c2 : Nat) (w : World) (hN : Normal ws) (hn : ws.length ≤ 900)
    (hr : Kd.C (Kd.int .u64) w A ws.length ws) (hc : ws.length ≤ c) (hr2 : Kd.C (Kd.int .i64) w A2 (trimL (digs ws)).length (trimL (digs ws))) (hc2 : (trimL (digs ws)).length ≤ c2)
    (hab : a = (b && decide (0 < (trimL (digs ws)).length))) :
    Calls Tryz.prog 36 #[.agg #[.bool a, .slice A ws.length c], .bool b, .slice A2 (trimL (digs ws)).length c2] w fun e w' => e = .returned (.bool true) ∧ Below w.heap.size w w' := by
  have hh := fun W h1 h2 => spec_HasWords.calls 20000 A c ws A2 c2 (trimL (digs ws)) true W h1 hc h2 hc2 (has_ev ws hN hn)
  have HR := Aside0.mk hr
  have HR2 := Aside0.mk hr2
  clear hr hr2
  obtain ⟨m, hm⟩ : ∃ m, (trimL (digs ws)).length = m := ⟨_, rfl⟩
  rw [hm] at hab ⊢
  have hh2 := fun W h1 h2 => hm ▸ hh W h1 h2
  have HH := Aside0.mk hh2
  clear hh hh2 hc2
  subst hab
  by_cases h0 : 0 < m <;> cases b <;> simp only [h0, decide_true, decide_false, Bool.and_true, Bool.and_false, Bool.true_and, Bool.false_and]
  all_goals
    go_enter Tryz.func36, Tryz.ntmps36
    go_wp2_with fail
    refine (HH.out _ (Kd.C_below HR.out (below_alloc (Below.refl _ _) _)) (Kd.C_below HR2.out (below_alloc (Below.refl _ _) _))).mono ?_
    rintro e w1 ⟨rfl, hbel⟩
    have HB := Aside0.mk hbel
    clear hbel
    go_wp2
    go_ret
    exact ⟨rfl, (below_alloc (Below.refl _ _) _).trans (HB.out.mono (by simp))⟩

/-- What 'Integer' holds of the world while it works: its argument's box, its result's cells. -/
structure Inv (w : World) (neg : Bool) (A : Option Addr) (n c : Nat) (w' : World) : Prop where
  below : Below w.heap.size w w'
  size : w.heap.size + 2 ≤ w'.heap.size
  c0 : ∀ i, w'.cell? ⟨w.heap.size, i, none⟩ = (#[.int .i64 3, .bool false, .string { data := #[] }, .bool neg, .slice A n c, .slice none 0 0, .bool false, .slice none 0 0, .slice none 0 0] : Array Value)[i]?
  c1 : ∀ i, w'.cell? ⟨w.heap.size + 1, i, none⟩ = (#[.bool false, .slice none 0 0, .slice none 0 0] : Array Value)[i]?
  f1 : ∀ i, w'.frozen? ⟨w.heap.size + 1, i, none⟩ = false
theorem Inv.start (w : World) (neg : Bool) (A : Option Addr) (n c : Nat) (T U : TypeId) : Inv w neg A n c ((w.alloc (.cells #[.int .i64 3, .bool false, .string { data := #[] }, .bool neg, .slice A n c, .slice none 0 0, .bool false, .slice none 0 0, .slice none 0 0] T)).alloc (.cells #[.bool false, .slice none 0 0, .slice none 0 0] U)) :=
  ⟨below_alloc (below_alloc (Below.refl _ _) _) _, by simp, fun i => (ca (by simp)).trans (cn rfl), fun i => cn (by simp), fun i => fn (by simp)⟩
theorem Inv.step {w w1 w2 : World} {neg : Bool} {A : Option Addr} {n c : Nat} (hb : Below w1.heap.size w1 w2) (h : Inv w neg A n c w1) : Inv w neg A n c w2 :=
  ⟨h.below.trans (hb.mono (by have := h.size; omega)), Nat.le_trans h.size hb.size, fun i => (hb.cell (p := ⟨w.heap.size, i, none⟩) (by have := h.size; simp only []; omega)).trans (h.c0 i), fun i => (hb.cell (p := ⟨w.heap.size + 1, i, none⟩) (by have := h.size; simp only []; omega)).trans (h.c1 i), fun i => (hb.frozen (p := ⟨w.heap.size + 1, i, none⟩) (by have := h.size; simp only []; omega)).trans (h.f1 i)⟩
theorem Inv.al {w w1 : World} {neg : Bool} {A : Option Addr} {n c : Nat} (h : Inv w neg A n c w1) (o : Obj) : Inv w neg A n c (w1.alloc o) := h.step ((Below.refl _ _).alloc (Nat.le_refl _) _)
theorem Inv.dr {w w1 : World} {neg : Bool} {A : Option Addr} {n c : Nat} (h : Inv w neg A n c w1) : Inv w neg A n c w1.drew := h.step ((Below.refl _ _).drew)
theorem Inv.set {w w1 : World} {neg : Bool} {A : Option Addr} {n c : Nat} (h : Inv w neg A n c w1) {p : Addr} (hp : w.heap.size + 2 ≤ p.block) (u : Value) : Inv w neg A n c (w1.setCell p u) := by
  have hB : Below (w.heap.size + 2) w1 (w1.setCell p u) := (Below.refl _ _).setCell hp u
  exact ⟨h.below.trans (hB.mono (by omega)), by have := h.size; simpa using this, fun i => (hB.cell (p := ⟨w.heap.size, i, none⟩) (by simp only []; omega)).trans (h.c0 i), fun i => (hB.cell (p := ⟨w.heap.size + 1, i, none⟩) (by simp only []; omega)).trans (h.c1 i), fun i => (hB.frozen (p := ⟨w.heap.size + 1, i, none⟩) (by simp only []; omega)).trans (h.f1 i)⟩

abbrev SI (w : World) (neg : Bool) (A : Option Addr) (n c : Nat) (w' : World) : Prop := w'.cell? ⟨w.heap.size, 3, none⟩ = some (.bool neg) ∧ w'.cell? ⟨w.heap.size, 4, none⟩ = some (.slice A n c) ∧ Aside0 (Inv w neg A n c w')
theorem SI.mk {w w' : World} {neg : Bool} {A : Option Addr} {n c : Nat} (h : Inv w neg A n c w') : SI w neg A n c w' := ⟨h.c0 3, h.c0 4, ⟨h⟩⟩
theorem SI.al {w w' : World} {neg : Bool} {A : Option Addr} {n c : Nat} {o : Obj} (h : SI w neg A n c w') : SI w neg A n c (w'.alloc o) := SI.mk (h.2.2.out.al o)
theorem SI.set {w w' : World} {neg : Bool} {A : Option Addr} {n c : Nat} {p : Addr} {u : Value} (hp : w.heap.size + 2 ≤ p.block) (h : SI w neg A n c w') : SI w neg A n c (w'.setCell p u) := SI.mk (h.2.2.out.set hp u)
theorem SI.step {w w1 w2 : World} {neg : Bool} {A : Option Addr} {n c : Nat} (hb : Below w1.heap.size w1 w2) (h : SI w neg A n c w1) : SI w neg A n c w2 := SI.mk (h.2.2.out.step hb)

/-- What stands behind the third region: the block of the fraction, its parts. -/
structure IOut (w : World) (neg : Bool) (A : Option Addr) (n c : Nat) (L : List Int) (g : Nat) (A1 : Option Addr) (c1 : Nat) (A2 : Option Addr) (c2 : Nat) (W : World) : Prop where
  inv : Inv w neg A n c W
  hg : w.heap.size + 2 ≤ g
  gl : g < W.heap.size
  g0 : W.cell? ⟨g, 0, none⟩ = some (.bool (neg && decide (0 < L.length)))
  g1 : W.cell? ⟨g, 1, none⟩ = some (.slice A1 L.length c1)
  g2 : W.cell? ⟨g, 2, none⟩ = some (.slice A2 1 c2)
  d1 : DV W (w.heap.size + 2) (.slice A1 L.length c1) L
  d2 : DV W (w.heap.size + 2) (.slice A2 1 c2) [1]
theorem IOut.step {w W W2 : World} {neg : Bool} {A A1 A2 : Option Addr} {n c g c1 c2 : Nat} {L : List Int} (hb : Below W.heap.size W W2) (h : IOut w neg A n c L g A1 c1 A2 c2 W) : IOut w neg A n c L g A1 c1 A2 c2 W2 :=
  ⟨h.inv.step hb, h.hg, Nat.lt_of_lt_of_le h.gl hb.size, (hb.cell (p := ⟨g, 0, none⟩) h.gl).trans h.g0, (hb.cell (p := ⟨g, 1, none⟩) h.gl).trans h.g1, (hb.cell (p := ⟨g, 2, none⟩) h.gl).trans h.g2, h.d1.below hb, h.d2.below hb⟩
theorem DV.bound {W : World} {B : Nat} {v : Value} {l : List Int} (h : DV W B v l) : Kd.V (Kd.int .i64) 0 W 0 (fun k => B ≤ k ∧ k < W.heap.size) v l := Kd.V_bound h
theorem DV.not {W W1 : World} {B B' g : Nat} {v : Value} {l : List Int} (h : DV W B v l) (hg : W.heap.size ≤ g) (hb : Below W.heap.size W W1) (hB : B' ≤ B) : Kd.V (Kd.int .i64) 0 W1 0 (fun k => B' ≤ k ∧ k ≠ g) v l :=
  Kd.V_mono (Kd.V_below (DV.bound h) hb) (fun k hk => ⟨by omega, by omega⟩)
theorem DV.not' {W : World} {B B' g : Nat} {v : Value} {l : List Int} (h : DV W B v l) (hg : g < B) (hB : B' ≤ B) : Kd.V (Kd.int .i64) 0 W 0 (fun k => B' ≤ k ∧ k ≠ g) v l :=
  Kd.V_mono h (fun k hk => ⟨by omega, by omega⟩)
theorem DV.three {W : World} {B g : Nat} {v : Value} {l : List Int} (h : Kd.V (Kd.int .i64) 0 W 0 (fun k => B ≤ k ∧ k ≠ g) v l) (x y z : Value) : DV (((W.setCell ⟨g, 0, none⟩ x).setCell ⟨g, 1, none⟩ y).setCell ⟨g, 2, none⟩ z) B v l :=
  Kd.V_mono (Kd.V_far (Kd.V_far (Kd.V_far h (fun k hk => hk.2) x) (fun k hk => hk.2) y) (fun k hk => hk.2) z) (fun k hk => hk.1)
theorem IOut.three {w W : World} {neg : Bool} {A A1 A2 : Option Addr} {n c g c1 c2 : Nat} {L : List Int} {x y z : Value} (hsi : SI w neg A n c W) (hg : w.heap.size + 2 ≤ g) (gl : g < W.heap.size)
    (h0 : W.cell? ⟨g, 0, none⟩ = some x) (h1 : W.cell? ⟨g, 1, none⟩ = some y) (h2 : W.cell? ⟨g, 2, none⟩ = some z)
    (d1 : Kd.V (Kd.int .i64) 0 W 0 (fun k => w.heap.size + 2 ≤ k ∧ k ≠ g) (.slice A1 L.length c1) L) (d2 : Kd.V (Kd.int .i64) 0 W 0 (fun k => w.heap.size + 2 ≤ k ∧ k ≠ g) (.slice A2 1 c2) [1]) :
    IOut w neg A n c L g A1 c1 A2 c2 (((W.setCell ⟨g, 0, none⟩ (.bool (neg && decide (0 < L.length)))).setCell ⟨g, 1, none⟩ (.slice A1 L.length c1)).setCell ⟨g, 2, none⟩ (.slice A2 1 c2)) := by
  refine ⟨(((hsi.2.2.out.set (p := ⟨g, 0, none⟩) hg _).set (p := ⟨g, 1, none⟩) hg _).set (p := ⟨g, 2, none⟩) hg _), hg, by simpa using gl, ?_, ?_, ?_, DV.three d1 _ _ _, DV.three d2 _ _ _⟩
  · exact (World.cell?_setCell_other _ _ _ _ (by simp)).trans ((World.cell?_setCell_other _ _ _ _ (by simp)).trans (World.cell?_setCell_same _ _ _ h0))
  · exact (World.cell?_setCell_other _ _ _ _ (by simp)).trans (World.cell?_setCell_same _ _ _ ((World.cell?_setCell_other _ _ _ _ (by simp)).trans h1))
  · exact World.cell?_setCell_same _ _ _ ((World.cell?_setCell_other _ _ _ _ (by simp)).trans ((World.cell?_setCell_other _ _ _ _ (by simp)).trans h2))
theorem IOut.one {w w1 W : World} {neg : Bool} {A A1 A2 : Option Addr} {n c c1 c2 B B2 : Nat} {L : List Int} {T : TypeId} (hsi : SI w neg A n c W) (hb : Below w1.heap.size w1 W) (hB : w.heap.size + 2 ≤ B) (hB2 : w.heap.size + 2 ≤ B2)
    (d1 : DV w1 B (.slice A1 L.length c1) L) (d2 : DV W B2 (.slice A2 1 c2) [1]) :
    IOut w neg A n c L W.heap.size A1 c1 A2 c2 (W.alloc (.cells #[.bool (neg && decide (0 < L.length)), .slice A1 L.length c1, .slice A2 1 c2] T)) :=
  ⟨hsi.2.2.out.al _, hsi.2.2.out.size, by simp, cn rfl, cn rfl, cn rfl, ((d1.lower hB).below hb).below ((Below.refl _ _).alloc (Nat.le_refl _) _), (d2.lower hB2).below ((Below.refl _ _).alloc (Nat.le_refl _) _)⟩

theorem IOut.late {w X w1 W : World} {neg : Bool} {A A1 A2 : Option Addr} {n c g c1 c2 : Nat} {L : List Int} {x y z : Value} (hsi : SI w neg A n c W) (hg : w.heap.size + 2 ≤ g) (hv : DV w1 X.heap.size (.slice A1 L.length c1) L) (hb : Below w1.heap.size w1 W)
    (hv2 : DV W w1.heap.size (.slice A2 1 c2) [1]) (gl : g < X.heap.size) (h0 : X.cell? ⟨g, 0, none⟩ = some x) (h1 : X.cell? ⟨g, 1, none⟩ = some y) (h2 : X.cell? ⟨g, 2, none⟩ = some z) (hb1 : Below X.heap.size X w1) :
    IOut w neg A n c L g A1 c1 A2 c2 (((W.setCell ⟨g, 0, none⟩ (.bool (neg && decide (0 < L.length)))).setCell ⟨g, 1, none⟩ (.slice A1 L.length c1)).setCell ⟨g, 2, none⟩ (.slice A2 1 c2)) := by
  have hz := hb1.size
  have hz2 := hb.size
  have gl1 : g < w1.heap.size := by omega
  refine IOut.three hsi hg (by omega) ((hb.cell (p := ⟨g, 0, none⟩) gl1).trans ((hb1.cell (p := ⟨g, 0, none⟩) gl).trans h0)) ((hb.cell (p := ⟨g, 1, none⟩) gl1).trans ((hb1.cell (p := ⟨g, 1, none⟩) gl).trans h1)) ((hb.cell (p := ⟨g, 2, none⟩) gl1).trans ((hb1.cell (p := ⟨g, 2, none⟩) gl).trans h2))
    (DV.not' (DV.below hv hb) gl (by omega)) (DV.not' hv2 gl1 (by omega))
theorem IOut.mid {w w1 W : World} {neg : Bool} {A A1 A2 : Option Addr} {n c c1 c2 B : Nat} {L : List Int} {x y z : Value} {T : TypeId} (hsi : SI w neg A n c W) (hg : w.heap.size + 2 ≤ w1.heap.size) (hv : DV w1 B (.slice A1 L.length c1) L) (hB : w.heap.size + 2 ≤ B) (hb : Below (w1.alloc (.cells #[x, y, z] T)).heap.size (w1.alloc (.cells #[x, y, z] T)) W)
    (hv2 : DV W (w1.alloc (.cells #[x, y, z] T)).heap.size (.slice A2 1 c2) [1]) :
    IOut w neg A n c L w1.heap.size A1 c1 A2 c2 (((W.setCell ⟨w1.heap.size, 0, none⟩ (.bool (neg && decide (0 < L.length)))).setCell ⟨w1.heap.size, 1, none⟩ (.slice A1 L.length c1)).setCell ⟨w1.heap.size, 2, none⟩ (.slice A2 1 c2)) := by
  have hz := hb.size
  simp only [World.size_alloc] at hz
  have hl : ∀ i, W.cell? ⟨w1.heap.size, i, none⟩ = (#[x, y, z] : Array Value)[i]? := fun i => (hb.cell (p := ⟨w1.heap.size, i, none⟩) (by simp)).trans (cn rfl)
  refine IOut.three hsi hg (by omega) (hl 0) (hl 1) (hl 2) (DV.not hv (Nat.le_refl _) ((below_alloc (Below.refl _ _) _).trans (hb.mono (by simp))) hB) (DV.not' hv2 (by simp) (by simp; omega))

def rv (W : World) (p : Addr) : Value := (W.cell? p).getD undef
theorem rv_of {W : World} {p : Addr} (h : ∃ u, W.cell? p = some u) : W.cell? p = some (rv W p) := by
  obtain ⟨u, h⟩ := h
  rw [h, rv, h]; rfl
/-- The same while the result is written: of its cells only that they are there. -/
structure JOut (w : World) (neg : Bool) (A : Option Addr) (n c : Nat) (L : List Int) (g : Nat) (A1 : Option Addr) (c1 : Nat) (A2 : Option Addr) (c2 : Nat) (W : World) : Prop where
  below : Below w.heap.size w W
  size : w.heap.size + 2 ≤ W.heap.size
  c0 : ∀ i, W.cell? ⟨w.heap.size, i, none⟩ = (#[.int .i64 3, .bool false, .string { data := #[] }, .bool neg, .slice A n c, .slice none 0 0, .bool false, .slice none 0 0, .slice none 0 0] : Array Value)[i]?
  r0 : ∃ u, W.cell? ⟨w.heap.size + 1, 0, none⟩ = some u
  r1 : ∃ u, W.cell? ⟨w.heap.size + 1, 1, none⟩ = some u
  r2 : ∃ u, W.cell? ⟨w.heap.size + 1, 2, none⟩ = some u
  f1 : ∀ i, W.frozen? ⟨w.heap.size + 1, i, none⟩ = false
  hg : w.heap.size + 2 ≤ g
  gl : g < W.heap.size
  g0 : W.cell? ⟨g, 0, none⟩ = some (.bool neg)
  g1 : W.cell? ⟨g, 1, none⟩ = some (.slice A1 L.length c1)
  g2 : W.cell? ⟨g, 2, none⟩ = some (.slice A2 1 c2)
  d1 : DV W (w.heap.size + 2) (.slice A1 L.length c1) L
  d2 : DV W (w.heap.size + 2) (.slice A2 1 c2) [1]
section
variable {w W W2 : World} {neg : Bool} {A A1 A2 : Option Addr} {n c g c1 c2 : Nat} {L : List Int}
theorem IOut.j (h : IOut w neg A n c L g A1 c1 A2 c2 W) (hn : neg = (neg && decide (0 < L.length))) : JOut w neg A n c L g A1 c1 A2 c2 W :=
  ⟨h.inv.below, h.inv.size, h.inv.c0, ⟨_, h.inv.c1 0⟩, ⟨_, h.inv.c1 1⟩, ⟨_, h.inv.c1 2⟩, h.inv.f1, h.hg, h.gl, hn ▸ h.g0, h.g1, h.g2, h.d1, h.d2⟩
theorem JOut.step (hb : Below W.heap.size W W2) (h : JOut w neg A n c L g A1 c1 A2 c2 W) : JOut w neg A n c L g A1 c1 A2 c2 W2 := by
  have hs := h.size
  have hz := hb.size
  have hc : ∀ b i, b < W.heap.size → W2.cell? ⟨b, i, none⟩ = W.cell? ⟨b, i, none⟩ := fun b i hl => hb.cell (p := ⟨b, i, none⟩) hl
  refine ⟨h.below.trans (hb.mono (by omega)), by omega, fun i => (hc _ _ (by omega)).trans (h.c0 i), ?_, ?_, ?_, fun i => (hb.frozen (p := ⟨w.heap.size + 1, i, none⟩) (by simp only []; omega)).trans (h.f1 i), h.hg, Nat.lt_of_lt_of_le h.gl hz, (hc _ _ h.gl).trans h.g0, (hc _ _ h.gl).trans h.g1, (hc _ _ h.gl).trans h.g2, h.d1.below hb, h.d2.below hb⟩
  · obtain ⟨u, hu⟩ := h.r0; exact ⟨u, (hc _ _ (by omega)).trans hu⟩
  · obtain ⟨u, hu⟩ := h.r1; exact ⟨u, (hc _ _ (by omega)).trans hu⟩
  · obtain ⟨u, hu⟩ := h.r2; exact ⟨u, (hc _ _ (by omega)).trans hu⟩
theorem cell_some {w : World} {p q : Addr} {x : Value} (h : ∃ v, w.cell? q = some v) : ∃ v, (w.setCell p x).cell? q = some v := by
  obtain ⟨v, h⟩ := h
  by_cases e : p = q
  · subst e; exact ⟨x, World.cell?_setCell_same _ _ _ h⟩
  · exact ⟨v, (World.cell?_setCell_other _ _ _ _ e).trans h⟩
theorem JOut.set (h : JOut w neg A n c L g A1 c1 A2 c2 W) (i : Nat) (u : Value) : JOut w neg A n c L g A1 c1 A2 c2 (W.setCell ⟨w.heap.size + 1, i, none⟩ u) := by
  have hB : Below (w.heap.size + 1) W (W.setCell ⟨w.heap.size + 1, i, none⟩ u) := (Below.refl (w.heap.size + 1) W).setCell (show w.heap.size + 1 ≤ (⟨w.heap.size + 1, i, none⟩ : Addr).block from Nat.le_refl _) u
  have hg := h.hg
  have hc : ∀ b i', b ≠ w.heap.size + 1 → (W.setCell ⟨w.heap.size + 1, i, none⟩ u).cell? ⟨b, i', none⟩ = W.cell? ⟨b, i', none⟩ := fun b i' hl => World.cell?_setCell_other _ _ _ _ (fun he => hl (by injection he with h1; exact h1.symm))
  exact ⟨h.below.trans (hB.mono (by omega)), by simpa using h.size, fun j => (hc _ _ (by omega)).trans (h.c0 j), cell_some h.r0, cell_some h.r1, cell_some h.r2, fun j => by simpa using h.f1 j, hg, by simpa using h.gl, (hc _ _ (by omega)).trans h.g0, (hc _ _ (by omega)).trans h.g1, (hc _ _ (by omega)).trans h.g2, h.d1.far (by simp) u, h.d2.far (by simp) u⟩
abbrev SJ (w : World) (neg : Bool) (A : Option Addr) (n c : Nat) (L : List Int) (g : Nat) (A1 : Option Addr) (c1 : Nat) (A2 : Option Addr) (c2 : Nat) (W : World) : Prop :=
  W.cell? ⟨w.heap.size, 0, none⟩ = some (.int .i64 3) ∧ W.cell? ⟨w.heap.size, 1, none⟩ = some (.bool false) ∧ W.cell? ⟨w.heap.size, 2, none⟩ = some (.string { data := #[] }) ∧ W.cell? ⟨w.heap.size, 3, none⟩ = some (.bool neg) ∧ W.cell? ⟨w.heap.size, 4, none⟩ = some (.slice A n c) ∧ W.cell? ⟨w.heap.size, 5, none⟩ = some (.slice none 0 0) ∧ W.cell? ⟨w.heap.size, 6, none⟩ = some (.bool false) ∧ W.cell? ⟨w.heap.size, 7, none⟩ = some (.slice none 0 0) ∧ W.cell? ⟨w.heap.size, 8, none⟩ = some (.slice none 0 0) ∧ W.cell? ⟨g, 0, none⟩ = some (.bool neg) ∧ W.cell? ⟨g, 1, none⟩ = some (.slice A1 L.length c1) ∧ W.cell? ⟨g, 2, none⟩ = some (.slice A2 1 c2) ∧ W.cell? ⟨w.heap.size + 1, 0, none⟩ = some (rv W ⟨w.heap.size + 1, 0, none⟩) ∧ W.cell? ⟨w.heap.size + 1, 1, none⟩ = some (rv W ⟨w.heap.size + 1, 1, none⟩) ∧ W.cell? ⟨w.heap.size + 1, 2, none⟩ = some (rv W ⟨w.heap.size + 1, 2, none⟩) ∧ W.frozen? ⟨w.heap.size + 1, 0, none⟩ = false ∧ W.frozen? ⟨w.heap.size + 1, 1, none⟩ = false ∧ W.frozen? ⟨w.heap.size + 1, 2, none⟩ = false ∧ Aside0 (JOut w neg A n c L g A1 c1 A2 c2 W)
theorem SJ.mk (h : JOut w neg A n c L g A1 c1 A2 c2 W) : SJ w neg A n c L g A1 c1 A2 c2 W := ⟨h.c0 0, h.c0 1, h.c0 2, h.c0 3, h.c0 4, h.c0 5, h.c0 6, h.c0 7, h.c0 8, h.g0, h.g1, h.g2, rv_of h.r0, rv_of h.r1, rv_of h.r2, h.f1 0, h.f1 1, h.f1 2, ⟨h⟩⟩
theorem SJ.out (h : SJ w neg A n c L g A1 c1 A2 c2 W) : JOut w neg A n c L g A1 c1 A2 c2 W := h.2.2.2.2.2.2.2.2.2.2.2.2.2.2.2.2.2.2.out
theorem SJ.step (hb : Below W.heap.size W W2) (h : SJ w neg A n c L g A1 c1 A2 c2 W) : SJ w neg A n c L g A1 c1 A2 c2 W2 := SJ.mk (h.out.step hb)
theorem SJ.dr (h : SJ w neg A n c L g A1 c1 A2 c2 W) : SJ w neg A n c L g A1 c1 A2 c2 W.drew := SJ.step ((Below.refl _ _).drew) h
theorem SJ.set3 {x y z : Value} (h : SJ w neg A n c L g A1 c1 A2 c2 W) : SJ w neg A n c L g A1 c1 A2 c2 (((W.setCell ⟨w.heap.size + 1, 0, none⟩ x).setCell ⟨w.heap.size + 1, 1, none⟩ y).setCell ⟨w.heap.size + 1, 2, none⟩ z) := SJ.mk (((h.out.set 0 x).set 1 y).set 2 z)
theorem JOut.done {x y z : Value} (h : JOut w neg A n c L g A1 c1 A2 c2 W) : (((W.setCell ⟨w.heap.size + 1, 0, none⟩ x).setCell ⟨w.heap.size + 1, 1, none⟩ y).setCell ⟨w.heap.size + 1, 2, none⟩ z).cell? ⟨w.heap.size + 1, 0, none⟩ = some x ∧ (((W.setCell ⟨w.heap.size + 1, 0, none⟩ x).setCell ⟨w.heap.size + 1, 1, none⟩ y).setCell ⟨w.heap.size + 1, 2, none⟩ z).cell? ⟨w.heap.size + 1, 1, none⟩ = some y ∧ (((W.setCell ⟨w.heap.size + 1, 0, none⟩ x).setCell ⟨w.heap.size + 1, 1, none⟩ y).setCell ⟨w.heap.size + 1, 2, none⟩ z).cell? ⟨w.heap.size + 1, 2, none⟩ = some z := by
  obtain ⟨u0, h0⟩ := h.r0
  obtain ⟨u1, h1⟩ := h.r1
  obtain ⟨u2, h2⟩ := h.r2
  refine ⟨?_, ?_, ?_⟩
  · exact (World.cell?_setCell_other _ _ _ _ (by simp)).trans ((World.cell?_setCell_other _ _ _ _ (by simp)).trans (World.cell?_setCell_same _ _ _ h0))
  · exact (World.cell?_setCell_other _ _ _ _ (by simp)).trans (World.cell?_setCell_same _ _ _ ((World.cell?_setCell_other _ _ _ _ (by simp)).trans h1))
  · exact World.cell?_setCell_same _ _ _ ((World.cell?_setCell_other _ _ _ _ (by simp)).trans ((World.cell?_setCell_other _ _ _ _ (by simp)).trans h2))
theorem JOut.fin {x y z : Value} {W' : World} (h : JOut w neg A n c L g A1 c1 A2 c2 W) (hw : W' = ((W.setCell ⟨w.heap.size + 1, 0, none⟩ x).setCell ⟨w.heap.size + 1, 1, none⟩ y).setCell ⟨w.heap.size + 1, 2, none⟩ z) :
    (W'.cell? ⟨w.heap.size + 1, 0, none⟩ = some x ∧ W'.cell? ⟨w.heap.size + 1, 1, none⟩ = some y ∧ W'.cell? ⟨w.heap.size + 1, 2, none⟩ = some z) ∧ DV W' w.heap.size (.slice A1 L.length c1) L ∧ DV W' w.heap.size (.slice A2 1 c2) [1] ∧ Below w.heap.size w W' := by
  subst hw
  have h3 := ((h.set 0 x).set 1 y).set 2 z
  exact ⟨h.done, h3.d1.lower (by omega), h3.d2.lower (by omega), h3.below⟩
end

theorem his_any {w : World} {neg : Bool} {A A1 A2 : Option Addr} {g n c c1 c2 : Nat} {L ws : List Int} (hN : Normal ws) (hn : ws.length ≤ 900) (hnn : ws.length = n) (hL : trimL (digs ws) = L) (hneg : neg = (neg && decide (0 < L.length)))
    (hr : Kd.C (Kd.int .u64) w A ws.length ws) (hc : ws.length ≤ c) (W : World) (h : JOut w neg A n c L g A1 c1 A2 c2 W) : Calls Tryz.prog 36 #[.agg #[.bool neg, .slice A n c], .bool neg, .slice A1 L.length c1] W fun e w' => e = .returned (.bool true) ∧ Below W.heap.size W w' := by
  have hq := DV.reads h.d1
  subst hL
  subst hnn
  exact isNumber_any neg neg A c ws A1 c1 W hN hn (Kd.C_below hr h.below) hc hq.2.2 hq.2.1 hneg
theorem hre_any {w : World} {neg : Bool} {A A1 A2 : Option Addr} {g n c c1 c2 : Nat} {L ws : List Int} (hnn : ws.length = n)
    (hr : Kd.C (Kd.int .u64) w A ws.length ws) (hc : ws.length ≤ c) (W : World) (h : JOut w neg A n c L g A1 c1 A2 c2 W) : Calls Tryz.prog 37 #[.agg #[.int .i64 3, .bool false, .string { data := #[] }, .bool neg, .slice A n c, .slice none 0 0, .bool false, .slice none 0 0, .slice none 0 0]] W fun e w' => e = .returned (.bool true) ∧ Below W.heap.size W w' := by
  subst hnn
  have hf : spec_rest.f 3 false { data := #[] } neg ws [] false [] [] = some true := by
    unfold spec_rest.f
    rw [if_neg (by simp), if_pos (by rw [ByteArray.toList_eq]), if_neg (by simp), if_pos (by simp)]
    rfl
  have hh := spec_rest.calls 3 false { data := #[] } neg A c ws none 0 [] false none 0 [] none 0 [] true W (Kd.C_below hr h.below) hc (Kd.C_nil _ _) (Nat.zero_le _) (Kd.C_nil _ _) (Nat.zero_le _) (Kd.C_nil _ _) (Nat.zero_le _) hf
  exact hh.mono fun e w' h => h

set_option maxRecDepth 100000 in
set_option maxHeartbeats 16000000 in
theorem integer_any (neg : Bool) (A : Option Addr) (c : Nat) (ws : List Int) (w : World) (hN : Normal ws) (hn : ws.length ≤ 900) (hneg : neg = (neg && decide (0 < (trimL (digs ws)).length)))
    (hr : Kd.C (Kd.int .u64) w A ws.length ws) (hc : ws.length ≤ c) :
    Calls Tryz.prog 15 #[toldInt neg (.slice A ws.length c)] w fun e w' => ∃ v1 v2, e = .returned (.tuple #[.agg #[.bool neg, v1, v2], .bool true]) ∧ DV w' w.heap.size v1 (trimL (digs ws)) ∧ DV w' w.heap.size v2 [1] ∧ Below w.heap.size w w' := by
  obtain ⟨n, hnn⟩ : ∃ n, ws.length = n := ⟨_, rfl⟩
  have hof : ∀ W, Inv w neg A n c W → Calls Tryz.prog 35 #[.slice A n c] W fun e w' => ∃ v, e = .returned v ∧ DV w' W.heap.size v (trimL (digs ws)) ∧ Below W.heap.size W w' := fun W h => sof_any A n c ws W hN.1 hn hnn.symm (hnn ▸ hc) (Kd.C_below hr h.below)
  have HR := Aside0.mk hr
  have HNN := Aside0.mk hnn
  rw [hnn]
  obtain ⟨L, hL⟩ : ∃ L, trimL (digs ws) = L := ⟨_, rfl⟩
  rw [hL] at hof hneg ⊢
  have HOF := Aside0.mk hof
  have HNEG := Aside0.mk hneg
  have HL := Aside0.mk hL
  clear hof hr hnn hneg hL
  unfold toldInt
  have hI := Aside0.mk (Inv.start w neg A n c 31 36)
  go_enter Tryz.func15, Tryz.ntmps15
  go_wp2_with fail
  go_cut [4] (fun v4 wc => ∃ (g : Nat) (A1 : Option Addr) (c1 : Nat) (A2 : Option Addr) (c2 : Nat), v4 = .pointer (some ⟨g, 0, none⟩) ∧ Aside0 (IOut w neg A n c L g A1 c1 A2 c2 wc))
  case first =>
    go_region_held3 (fun w' => w'.cell? ⟨w.heap.size, 3, none⟩ = some (.bool neg) ∧ w'.cell? ⟨w.heap.size, 4, none⟩ = some (.slice A n c) ∧ Aside0 (Inv w neg A n c w'))
      (first | exact SI.al (by with_reducible assumption) | exact SI.set (by simp only []; omega) (SI.set (by simp only []; omega) (SI.set (by simp only []; omega) (by with_reducible assumption))) | exact SI.step (by with_reducible assumption) (by with_reducible assumption) | exact SI.mk hI.out.dr)
      (first | (go_at_call 35; (with_reducible refine (HOF.out _ (Aside0.out (And.right (And.right (by with_reducible assumption))))).mono ?_); rintro e w' ⟨v, rfl, hv, hb⟩; obtain ⟨A1, c1, rfl⟩ := hv.slice; have hsi := SI.step hb (by with_reducible assumption); obtain ⟨hcl, hfr⟩ := bcell hb; have hz := hb.size; (try simp only [World.size_alloc, World.size_drew] at hz); (try replace hz := Nat.lt_of_succ_le hz)) | (go_at_call 9; (with_reducible refine (whole_any _ _ _ _ _).mono ?_); rintro e w' ⟨v2, rfl, hv2, hb⟩; obtain ⟨A2, c2, rfl⟩ := hv2.slice; have hsi := SI.step hb (by with_reducible assumption); obtain ⟨hcl, hfr⟩ := bcell hb; have hz := hb.size; (try simp only [World.size_alloc, World.size_drew] at hz); (try replace hz := Nat.lt_of_succ_le hz)))
    all_goals (go_wp2_with fail; go_meet)
    case rel => exact ⟨_, A1, c1, A2, c2, rfl, ⟨IOut.one hsi hb (by simp <;> omega) (by omega) hv hv2⟩⟩
    case rel => exact ⟨_, A1, c1, A2, c2, rfl, ⟨IOut.mid hsi (by omega) hv (by simp <;> omega) hb hv2⟩⟩
    case rel => exact ⟨_, A1, c1, A2, c2, rfl, ⟨IOut.late hsi (by omega) hv hb hv2 (by simp) (cn (by simp)) (cn (by simp)) (cn (by simp)) (by assumption)⟩⟩
  case rest =>
    obtain ⟨g, A1, c1, A2, c2, rfl, HO⟩ := hcut
    have HJ := Aside0.mk (SJ.mk (HO.out.j HNEG.out))
    have HIS := Aside0.mk (fun W h => his_any (g := g) (A1 := A1) (A2 := A2) (c1 := c1) (c2 := c2) hN hn HNN.out HL.out HNEG.out HR.out hc W h)
    have HRE := Aside0.mk (fun W h => hre_any (neg := neg) (L := L) (g := g) (A1 := A1) (A2 := A2) (c1 := c1) (c2 := c2) HNN.out HR.out hc W h)
    clear HO hN hn hc HR HOF HL hI
    go_wp2_with fail
    go_cut [3] (fun v3 wc => ∃ W, v3 = .bool true ∧ Aside0 (JOut w neg A n c L g A1 c1 A2 c2 W ∧ wc = ((W.setCell ⟨w.heap.size + 1, 0, none⟩ (.bool neg)).setCell ⟨w.heap.size + 1, 1, none⟩ (.slice A1 L.length c1)).setCell ⟨w.heap.size + 1, 2, none⟩ (.slice A2 1 c2)))
    case first =>
      go_region_held3 (fun W => W.cell? ⟨w.heap.size, 0, none⟩ = some (.int .i64 3) ∧ W.cell? ⟨w.heap.size, 1, none⟩ = some (.bool false) ∧ W.cell? ⟨w.heap.size, 2, none⟩ = some (.string { data := #[] }) ∧ W.cell? ⟨w.heap.size, 3, none⟩ = some (.bool neg) ∧ W.cell? ⟨w.heap.size, 4, none⟩ = some (.slice A n c) ∧ W.cell? ⟨w.heap.size, 5, none⟩ = some (.slice none 0 0) ∧ W.cell? ⟨w.heap.size, 6, none⟩ = some (.bool false) ∧ W.cell? ⟨w.heap.size, 7, none⟩ = some (.slice none 0 0) ∧ W.cell? ⟨w.heap.size, 8, none⟩ = some (.slice none 0 0) ∧ W.cell? ⟨g, 0, none⟩ = some (.bool neg) ∧ W.cell? ⟨g, 1, none⟩ = some (.slice A1 L.length c1) ∧ W.cell? ⟨g, 2, none⟩ = some (.slice A2 1 c2) ∧ W.cell? ⟨w.heap.size + 1, 0, none⟩ = some (rv W ⟨w.heap.size + 1, 0, none⟩) ∧ W.cell? ⟨w.heap.size + 1, 1, none⟩ = some (rv W ⟨w.heap.size + 1, 1, none⟩) ∧ W.cell? ⟨w.heap.size + 1, 2, none⟩ = some (rv W ⟨w.heap.size + 1, 2, none⟩) ∧ W.frozen? ⟨w.heap.size + 1, 0, none⟩ = false ∧ W.frozen? ⟨w.heap.size + 1, 1, none⟩ = false ∧ W.frozen? ⟨w.heap.size + 1, 2, none⟩ = false ∧ Aside0 (JOut w neg A n c L g A1 c1 A2 c2 W))
        (first | exact SJ.set3 (by with_reducible assumption) | exact SJ.step (by with_reducible assumption) (by with_reducible assumption) | exact SJ.dr HJ.out | exact HJ.out)
        (first | (go_at_call 36; (with_reducible refine (HIS.out _ (SJ.out (by with_reducible assumption))).mono ?_); rintro e w' ⟨rfl, hb⟩; have hsi := SJ.step hb (by with_reducible assumption); obtain ⟨hcl, hfr⟩ := bcell hb; have hz := hb.size; (try simp only [World.size_alloc, World.size_drew] at hz); (try replace hz := Nat.lt_of_succ_le hz)) | (go_at_call 37; (with_reducible refine (HRE.out _ (SJ.out (by with_reducible assumption))).mono ?_); rintro e w' ⟨rfl, hb⟩; have hsi := SJ.step hb (by with_reducible assumption); obtain ⟨hcl, hfr⟩ := bcell hb; have hz := hb.size; (try simp only [World.size_alloc, World.size_drew] at hz); (try replace hz := Nat.lt_of_succ_le hz)))
      all_goals (go_wp2_with fail; go_meet)
      case rel => exact ⟨_, rfl, ⟨⟨SJ.out hsi, rfl⟩⟩⟩
    case rest =>
      obtain ⟨W, rfl, HW⟩ := hcut
      obtain ⟨hj, hw⟩ := HW.out
      have HF := Aside0.mk (hj.fin hw)
      obtain ⟨⟨e0, e1, e2⟩, -⟩ := hj.fin hw
      clear HW HJ HIS HRE hj hw HNEG
      go_wp2
      refine bodyPost_ret (v := .tuple #[.agg #[.bool neg, .slice A1 L.length c1, .slice A2 1 c2], .bool true]) (by simp [results, Tryz.results15, go_sem, e0, e1, e2]) rfl ⟨_, _, rfl, HF.out.2.1, HF.out.2.2.1, HF.out.2.2.2⟩
end Go.Proofs.YtnhonclncjgjoaaGreatDoor

namespace Go.Proofs.YtnhonclncjgjoaaGreatDoor
open Go Go.RowKit Go.Proofs.YtnhonclncjgjoaaGreatDoorW.PrintWords Ps
set_option linter.unusedVariables false
set_option linter.unusedSimpArgs false

set_option maxRecDepth 100000 in
set_option maxHeartbeats 4000000 in
theorem isInt_any (neg : Bool) (A : Option Addr) (c : Nat) (ws : List Int) (w : World) (hN : Normal ws) (hn : ws.length ≤ 900) (hneg : neg = (neg && decide (0 < (trimL (digs ws)).length)))
    (hr : Kd.C (Kd.int .u64) w A ws.length ws) (hc : ws.length ≤ c) (L : List Int) (hL : trimL (digs ws) = L) (hl : L.length ≤ 10000) (A1 : Option Addr) (c1 : Nat) (h1 : Kd.C (Kd.int .i64) w A1 L.length L) (hc1 : L.length ≤ c1) (A2 : Option Addr) (c2 : Nat) (h2 : Kd.C (Kd.int .i64) w A2 1 [1]) (hc2 : 1 ≤ c2) :
    Calls Tryz.prog 8 #[toldInt neg (.slice A ws.length c), .agg #[.bool neg, .slice A1 L.length c1, .slice A2 1 c2]] w fun e w' => e = .returned (.bool true) ∧ Below w.heap.size w w' := by
  have hin : ∀ W, Below w.heap.size w W → Calls Tryz.prog 15 #[toldInt neg (.slice A ws.length c)] W fun e w' => ∃ v1 v2, e = .returned (.tuple #[.agg #[.bool neg, v1, v2], .bool true]) ∧ DV w' W.heap.size v1 L ∧ DV w' W.heap.size v2 [1] ∧ Below W.heap.size W w' := fun W hb => hL ▸ integer_any neg A c ws W hN hn hneg (Kd.C_below hr hb) hc
  have hsm : ∀ W, Below w.heap.size w W → ∀ A1' c1' A2' c2' B, DV W B (.slice A1' L.length c1') L → DV W B (.slice A2' 1 c2') [1] → Calls Tryz.prog 16 #[.agg #[.bool neg, .slice A1' L.length c1', .slice A2' 1 c2'], .agg #[.bool neg, .slice A1 L.length c1, .slice A2 1 c2]] W fun e w' => e = .returned (.bool true) ∧ Below W.heap.size W w' := by
    intro W hb A1' c1' A2' c2' B d1 d2
    have r1 := DV.reads d1
    have r2 := DV.reads d2
    exact (spec_same.calls 20000 neg A1' c1' L A2' c2' [1] neg A1 c1 L A2 c2 [1] true W r1.2.2 r1.2.1 r2.2.2 r2.2.1 (Kd.C_below h1 hb) hc1 (Kd.C_below h2 hb) hc2 (same_same neg L [1] hl (by simp))).mono fun e w' h => h
  have HIN := Aside0.mk hin
  have HSM := Aside0.mk hsm
  obtain ⟨n, hn⟩ : ∃ n, ws.length = n := ⟨_, rfl⟩
  rw [hn] at HIN ⊢
  clear hin hsm hneg hr hc hL hl h1 hc1 h2 hc2 hn hN
  unfold toldInt at HIN ⊢
  go_enter Tryz.func8, Tryz.ntmps8
  go_wp2_with fail
  refine (HIN.out _ (below_alloc (below_alloc (Below.refl _ _) _) _)).mono ?_
  rintro e w1 ⟨v1, v2, rfl, hv1, hv2, hbel⟩
  obtain ⟨A1', c1', rfl⟩ := hv1.slice
  obtain ⟨A2', c2', rfl⟩ := hv2.slice
  have HB := Aside0.mk hbel
  have HB0 := Aside0.mk (show Below w.heap.size w w1 from (below_alloc (below_alloc (Below.refl _ _) _) _).trans (hbel.mono (by simp; omega)))
  have HV1 := Aside0.mk hv1
  have HV2 := Aside0.mk hv2
  have hz := hbel.size
  simp only [World.size_alloc] at hz
  replace hz := Nat.lt_of_succ_le hz
  have e1 : ∀ i, w1.cell? ⟨w.heap.size + 1, i, none⟩ = (#[.bool neg, .slice A1 L.length c1, .slice A2 1 c2] : Array Value)[i]? := fun i => (hbel.cell (p := ⟨w.heap.size + 1, i, none⟩) (by simp only [World.size_alloc]; omega)).trans (cn (by simp))
  clear hv1 hv2 hbel
  go_wp2_with fail
  refine (HSM.out _ (below_alloc HB0.out _) _ _ _ _ _ (HV1.out.below (below_alloc (Below.refl _ _) _)) (HV2.out.below (below_alloc (Below.refl _ _) _))).mono ?_
  rintro e w2 ⟨rfl, hb2⟩
  have HB2 := Aside0.mk hb2
  clear hb2
  go_wp2
  go_ret
  exact ⟨rfl, (below_alloc HB0.out _).trans (HB2.out.mono (by simp; omega))⟩
end Go.Proofs.YtnhonclncjgjoaaGreatDoor

namespace Go.Proofs.YtnhonclncjgjoaaGreatDoor
open Go Go.RowKit Go.Proofs.YtnhonclncjgjoaaGreatDoorW.PrintWords Ps
set_option linter.unusedVariables false
set_option linter.unusedSimpArgs false

theorem of64_any (n : Int) (h0 : 0 ≤ n) (h1 : n < 9223372036854775808) (w : World) :
    Calls Tryz.prog 14 #[.int .i64 n] w fun e w' => ∃ A1 c1 A2 c2, e = .returned (.agg #[.bool false, .slice A1 (trimL (digs [n])).length c1, .slice A2 1 c2]) ∧ (trimL (digs [n])).length ≤ c1 ∧ 1 ≤ c2 ∧ Kd.C (Kd.int .i64) w' A1 (trimL (digs [n])).length (trimL (digs [n])) ∧ Kd.C (Kd.int .i64) w' A2 1 [1] ∧ Below w.heap.size w w' := by
  have hf : spec_Of64.f 20000 n = some (false, trimL (digs [n]), [1]) := by
    unfold spec_Of64.f
    rw [if_neg (by omega), show IntKind.u64.wrap n = n by (rw [IntKind.wrap_u64]; omega), of_ev [n] (by intro x hx; simp only [List.mem_singleton] at hx; omega) (by simp), small_one]
    rfl
  refine (spec_Of64.calls 20000 n _ _ _ w hf).mono ?_
  rintro e w' ⟨v1, v2, rfl, d1, d2, hb⟩
  obtain ⟨A1, c1, rfl⟩ := Kd.V_slice d1
  have r1 := Kd.V_reads' d1
  have hV := Kd.R_V (base' := 0) d2
  obtain ⟨A2, c2, rfl⟩ := Kd.V_slice hV
  have r2 := Kd.V_reads' hV
  exact ⟨A1, c1, A2, c2, rfl, r1.2.1, r2.2.1, r1.2.2, r2.2.2, hb⟩

theorem digs_wordList (n : Int) : trimL (digs (wordList n)) = trimL (digs [n]) := by
  unfold wordList
  split
  · next h => subst h; decide
  · rfl
theorem normal_wordList (n : Int) (h0 : 0 ≤ n) (h1 : n < 9223372036854775808) : Normal (wordList n) := by
  unfold wordList
  split
  · exact ⟨by simp, by simp⟩
  · next h => exact ⟨by intro x hx; simp only [List.mem_singleton] at hx; omega, by intro _; simpa using h⟩

theorem wordList_length (n : Int) : (wordList n).length ≤ 1 := by unfold wordList; split <;> simp

/-- The number that 'told' gave earlier is the integer that the reference names. -/
theorem isInt_lit (n : Int) (h0 : 0 ≤ n) (h1 : n < 9223372036854775808) (A : Option Addr) (c : Nat) (w : World) (hr : Kd.C (Kd.int .u64) w A (wordList n).length (wordList n)) (hc : (wordList n).length ≤ c)
    (A1 : Option Addr) (c1 : Nat) (A2 : Option Addr) (c2 : Nat) (hc1 : (trimL (digs [n])).length ≤ c1) (hc2 : 1 ≤ c2) (r1 : Kd.C (Kd.int .i64) w A1 (trimL (digs [n])).length (trimL (digs [n]))) (r2 : Kd.C (Kd.int .i64) w A2 1 [1]) :
    Calls Tryz.prog 8 #[toldInt false (.slice A (wordList n).length c), .agg #[.bool false, .slice A1 (trimL (digs [n])).length c1, .slice A2 1 c2]] w fun e w' => e = .returned (.bool true) ∧ Below w.heap.size w w' := by
  refine isInt_any false A c (wordList n) w (normal_wordList n h0 h1) (by have := wordList_length n; omega) rfl hr hc _ (digs_wordList n) ?_ A1 c1 r1 hc1 A2 c2 r2 hc2
  have := trimL_length (digs [n])
  have h4 := digs_length [n]
  simp only [List.length_cons, List.length_nil] at h4
  omega
end Go.Proofs.YtnhonclncjgjoaaGreatDoor

namespace Go.Proofs.YtnhonclncjgjoaaGreatDoor
open Go Go.RowKit Go.Proofs.YtnhonclncjgjoaaGreatDoorW.PrintWords Ps
set_option linter.unusedVariables false
set_option linter.unusedSimpArgs false

/-- A row of numbers of its own, read only from now on. -/
abbrev UV (W : World) (B : Nat) (v : Value) (l : List Int) : Prop := Kd.V (Kd.int .u64) 0 W 0 (fun k => B ≤ k) v l
theorem own_UV {W : World} {B : Nat} {T : TypeId} {v : Value} {ws : List Int} (h : W.ownsRow B T 1 v ws.length (nums .u64 ws)) : UV W B v ws := by
  have hok : ∀ k, v.ownBlock = some k → B ≤ k := by
    intro k hk
    rcases h.2 with ⟨rfl, _⟩ | ⟨g, cap, cur, rfl, hg, _⟩
    · simp [Value.ownBlock] at hk
    · have : g = k := by simpa [Value.ownBlock] using hk
      omega
  have hR : Kd.R (Kd.int .u64) T W B (fun k => B ≤ k) v ws := Kd.R_of_own h hok
  have hV := Kd.R_V (base' := 0) hR
  exact hV
theorem UV.lower {W : World} {B B' : Nat} {v : Value} {l : List Int} (h : UV W B v l) (hb : B' ≤ B) : UV W B' v l := Kd.V_mono h (fun k hk => Nat.le_trans hb hk)
theorem UV.far {W : World} {B b i : Nat} {u v : Value} {l : List Int} (h : UV W B v l) (hb : b < B) : UV (W.setCell ⟨b, i, none⟩ u) B v l := Kd.V_far h (fun k hk => Nat.ne_of_gt (Nat.lt_of_lt_of_le hb hk)) u
theorem UV.below {W W1 : World} {B : Nat} {v : Value} {l : List Int} (h : UV W B v l) (hb : Below W.heap.size W W1) : UV W1 B v l := Kd.V_below h hb

set_option maxRecDepth 100000 in
set_option maxHeartbeats 4000000 in
theorem literal_int0 (s : ByteArray) (n : Int) (h0 : 0 ≤ n) (h1 : n ≤ 9223372036854775807) (w : World) (hM : ∀ W, Below w.heap.size w W → Calls Tryz.prog 13 #[.string s, .int .i64 5, .int .u64 0] W fun e w' => e = .returned (.iface 67 (.int .i64 n)) ∧ Below W.heap.size W w') :
    Calls Tryz.prog 6 #[.string s, .int .i64 0] w fun e w' => ∃ A c, e = .returned (toldInt false (.slice A (wordList n).length c)) ∧ UV w' w.heap.size (.slice A (wordList n).length c) (wordList n) ∧ Below w.heap.size w w' := by
  have HM := Aside0.mk hM
  clear hM
  have HN := Aside0.mk (And.intro h0 h1)
  clear h0 h1
  go_enter Tryz.func6, Tryz.ntmps6
  go_wp2_with fail
  refine (HM.out _ (below_alloc (below_alloc (Below.refl _ _) _) _)).mono ?_
  rintro e w1 ⟨rfl, hb1⟩
  have HB1 := Aside0.mk (show Below w.heap.size w w1 from (below_alloc (below_alloc (Below.refl _ _) _) _).trans (hb1.mono (by simp <;> omega)))
  have hz1 := hb1.size
  simp only [World.size_alloc] at hz1
  have e1 : ∀ i, w1.cell? ⟨w.heap.size, i, none⟩ = (#[.int .i64 0, .bool false, .string { data := #[] }, .bool false, .slice none 0 0, .slice none 0 0, .bool false, .slice none 0 0, .slice none 0 0] : Array Value)[i]? := fun i => (hb1.cell (p := ⟨w.heap.size, i, none⟩) (by simp only [World.size_alloc]; omega)).trans ((ca (by simp)).trans (cn rfl))
  have f1 : ∀ i, w1.frozen? ⟨w.heap.size, i, none⟩ = false := fun i => (hb1.frozen (p := ⟨w.heap.size, i, none⟩) (by simp only [World.size_alloc]; omega)).trans ((fa (by simp)).trans (fn rfl))
  have HE1 := Aside0.mk e1
  have HF1 := Aside0.mk f1
  clear hb1 e1 f1
  go_wp2_with fail
  refine (told_int64 n HN.out.1 HN.out.2 w1).mono ?_
  rintro e w2 ⟨v, rfl, ho, hb2⟩
  have hv := own_UV ho
  obtain ⟨A, c, rfl⟩ := Kd.V_slice hv
  have HV := Aside0.mk (hv.lower (B' := w.heap.size + 1) (by omega))
  clear ho hv
  have HB2 := Aside0.mk (HB1.out.trans (hb2.mono (by omega)))
  have hz2 := hb2.size
  have e2 : ∀ i, w2.cell? ⟨w.heap.size, i, none⟩ = (#[.int .i64 0, .bool false, .string { data := #[] }, .bool false, .slice none 0 0, .slice none 0 0, .bool false, .slice none 0 0, .slice none 0 0] : Array Value)[i]? := fun i => (hb2.cell (p := ⟨w.heap.size, i, none⟩) (by simp only []; omega)).trans (HE1.out i)
  have f2 : ∀ i, w2.frozen? ⟨w.heap.size, i, none⟩ = false := fun i => (hb2.frozen (p := ⟨w.heap.size, i, none⟩) (by simp only []; omega)).trans (HF1.out i)
  clear hb2 HE1 HF1
  unfold toldInt
  go_wp2
  refine bodyPost_ret (v := toldInt false (.slice A (wordList n).length c)) (by simp [toldInt, results, Tryz.results6, go_sem, e2, f2]) rfl ⟨A, c, rfl, ?_, ?_⟩
  · refine UV.lower (B := w.heap.size + 1) ?_ (by omega)
    exact (UV.far (UV.far (UV.far (UV.far (UV.far (UV.far (UV.far (UV.far (UV.far HV.out (Nat.lt_succ_self _)) (Nat.lt_succ_self _)) (Nat.lt_succ_self _)) (Nat.lt_succ_self _)) (Nat.lt_succ_self _)) (Nat.lt_succ_self _)) (Nat.lt_succ_self _)) (Nat.lt_succ_self _)) (Nat.lt_succ_self _))
  · exact (((((((((HB2.out.setCell (by simp) _).setCell (by simp) _).setCell (by simp) _).setCell (by simp) _).setCell (by simp) _).setCell (by simp) _).setCell (by simp) _).setCell (by simp) _).setCell (by simp) _)
end Go.Proofs.YtnhonclncjgjoaaGreatDoor

namespace Go.Proofs.YtnhonclncjgjoaaGreatDoor
open Go Go.RowKit Go.Proofs.YtnhonclncjgjoaaGreatDoorW.PrintWords Ps
set_option linter.unusedVariables false
set_option linter.unusedSimpArgs false

theorem seven_mfl (w : World) : Calls Tryz.prog 13 #[.string seven, .int .i64 5, .int .u64 0] w fun e w' => e = .returned (.iface 67 (.int .i64 7)) ∧ Below w.heap.size w w' :=
  mfl_int_ok seven 7 w (ppint_ok seven 7 w (pint_ok seven (by decide) (by rfl) (by rfl) 7 (by decide) (by decide) w (seven_pu w)))

set_option maxRecDepth 100000 in
set_option maxHeartbeats 2000000 in
theorem alive_any (w : World) : Calls Tryz.prog 7 #[] w fun e w' => e = .returned (.bool true) ∧ Below w.heap.size w w' := by
  have HL := Aside0.mk (literal_int0 seven 7 (by decide) (by decide) w (fun W _ => seven_mfl W))
  go_enter Tryz.func7, Tryz.ntmps7
  go_wp2_with fail
  refine HL.out.mono ?_
  rintro e w1 ⟨A, c, rfl, hu, hb1⟩
  have HB1 := Aside0.mk hb1
  have HU := Aside0.mk hu
  clear hb1 hu HL
  unfold toldInt
  go_wp2_with fail
  refine (of64_any 7 (by decide) (by decide) w1).mono ?_
  rintro e w2 ⟨A1, c1, A2, c2, rfl, hc1, hc2, r1, r2, hb2⟩
  have HB2 := Aside0.mk hb2
  have h3 := isInt_lit 7 (by decide) (by decide) A c w2 (Kd.V_reads' (HU.out.below hb2)).2.2 (Kd.V_reads' (HU.out.below hb2)).2.1 A1 c1 A2 c2 hc1 hc2 r1 r2
  have H3 := Aside0.mk h3
  clear h3 hb2 r1 r2 hc1 hc2 HU
  unfold toldInt at H3
  go_wp2_with fail
  refine H3.out.mono ?_
  rintro e w3 ⟨rfl, hb3⟩
  have HB3 := Aside0.mk ((HB1.out.trans (HB2.out.mono HB1.out.size)).trans (hb3.mono (Nat.le_trans HB1.out.size HB2.out.size)))
  clear hb3
  go_wp2
  go_ret
  exact ⟨rfl, HB3.out⟩
end Go.Proofs.YtnhonclncjgjoaaGreatDoor

/- Joined of: BinU CmpU. -/
import Derived.Test.YtbcgeeaboecmgaaGreatDoorMade
import Derived.Test.YtbcgeeaboecmgaaGreatDoorTold
import Derived.Test.YtbcgeeaboecmgaaGreatDoorPs0
import Derived.Test.YtbcgeeaboecmgaaGreatDoorPs1
import Derived.Test.YtbcgeeaboecmgaaGreatDoorPs2
namespace Go.Proofs.YtbcgeeaboecmgaaGreatDoor
open Go Go.RowKit Go.Proofs.YtbcgeeaboecmgaaGreatDoorW.PrintWords
set_option linter.unusedVariables false
set_option linter.unusedSimpArgs false

theorem oper_ok (op : Int) (h0 : 0 ≤ op) (h1 : op < 12) : ∃ t, ∀ w, Calls Tryz.prog 10 #[.int .i64 op] w fun e w' => e = .returned (.tuple #[.int .i64 t, .bool true]) ∧ Below w.heap.size w w' := by
  have h : ∃ t, Ps.impl_operator.f op = some (t, true) := by
    have : op = 0 ∨ op = 1 ∨ op = 2 ∨ op = 3 ∨ op = 4 ∨ op = 5 ∨ op = 6 ∨ op = 7 ∨ op = 8 ∨ op = 9 ∨ op = 10 ∨ op = 11 := by omega
    rcases this with rfl | rfl | rfl | rfl | rfl | rfl | rfl | rfl | rfl | rfl | rfl | rfl <;> exact ⟨_, rfl⟩
  obtain ⟨t, ht⟩ := h
  exact ⟨t, fun w => Ps.impl_operator.calls op t true w ht⟩
/-- What stands while impl.Binary reckons: two values in boxes, nothing older turned. -/
structure TB (w : World) (X Y : Array Value) (W : World) : Prop where
  below : Below w.heap.size w W
  hi : w.heap.size + 3 ≤ W.heap.size
  c0 : ∀ i, W.cell? ⟨w.heap.size, i, none⟩ = X[i]?
  c1 : ∀ i, W.cell? ⟨w.heap.size + 1, i, none⟩ = Y[i]?
  c2 : ∀ i, W.cell? ⟨w.heap.size + 2, i, none⟩ = (#[.int .i64 0, .bool false, .string ⟨#[]⟩, .bool false, .slice none 0 0, .slice none 0 0, .bool false, .slice none 0 0, .slice none 0 0] : Array Value)[i]?
  f2 : ∀ i, W.frozen? ⟨w.heap.size + 2, i, none⟩ = false
theorem TB.step {w W W' : World} {X Y : Array Value} (h : TB w X Y W) (hb : Below W.heap.size W W') : TB w X Y W' :=
  have hi := h.hi
  ⟨h.below.trans (hb.mono (by omega)), Nat.le_trans h.hi hb.size, fun i => (hb.cell (p := ⟨w.heap.size, i, none⟩) (by simp only []; omega)).trans (h.c0 i), fun i => (hb.cell (p := ⟨w.heap.size + 1, i, none⟩) (by simp only []; omega)).trans (h.c1 i), fun i => (hb.cell (p := ⟨w.heap.size + 2, i, none⟩) (by simp only []; omega)).trans (h.c2 i), fun i => (hb.frozen (p := ⟨w.heap.size + 2, i, none⟩) (by simp only []; omega)).trans (h.f2 i)⟩
theorem TB.drew {w W : World} {X Y : Array Value} (h : TB w X Y W) : TB w X Y W.drew := h.step (below_drew (Below.refl _ _))
abbrev S18 (w : World) (x0 x1 x2 x3 x4 x5 x6 x7 x8 y0 y1 y2 y3 y4 y5 y6 y7 y8 : Value) (W : World) : Prop :=
  W.cell? ⟨w.heap.size, 0, none⟩ = some x0 ∧ W.cell? ⟨w.heap.size, 1, none⟩ = some x1 ∧ W.cell? ⟨w.heap.size, 2, none⟩ = some x2 ∧ W.cell? ⟨w.heap.size, 3, none⟩ = some x3 ∧ W.cell? ⟨w.heap.size, 4, none⟩ = some x4 ∧ W.cell? ⟨w.heap.size, 5, none⟩ = some x5 ∧ W.cell? ⟨w.heap.size, 6, none⟩ = some x6 ∧ W.cell? ⟨w.heap.size, 7, none⟩ = some x7 ∧ W.cell? ⟨w.heap.size, 8, none⟩ = some x8 ∧ W.cell? ⟨w.heap.size + 1, 0, none⟩ = some y0 ∧ W.cell? ⟨w.heap.size + 1, 1, none⟩ = some y1 ∧ W.cell? ⟨w.heap.size + 1, 2, none⟩ = some y2 ∧ W.cell? ⟨w.heap.size + 1, 3, none⟩ = some y3 ∧ W.cell? ⟨w.heap.size + 1, 4, none⟩ = some y4 ∧ W.cell? ⟨w.heap.size + 1, 5, none⟩ = some y5 ∧ W.cell? ⟨w.heap.size + 1, 6, none⟩ = some y6 ∧ W.cell? ⟨w.heap.size + 1, 7, none⟩ = some y7 ∧ W.cell? ⟨w.heap.size + 1, 8, none⟩ = some y8 ∧ Aside0 (w.heap.size + 2 < W.heap.size ∧ Below w.heap.size w W)
theorem S18.mk {w : World} {x0 x1 x2 x3 x4 x5 x6 x7 x8 y0 y1 y2 y3 y4 y5 y6 y7 y8 : Value} {W : World} (h : TB w #[x0, x1, x2, x3, x4, x5, x6, x7, x8] #[y0, y1, y2, y3, y4, y5, y6, y7, y8] W) : S18 w x0 x1 x2 x3 x4 x5 x6 x7 x8 y0 y1 y2 y3 y4 y5 y6 y7 y8 W :=
  ⟨h.c0 0, h.c0 1, h.c0 2, h.c0 3, h.c0 4, h.c0 5, h.c0 6, h.c0 7, h.c0 8, h.c1 0, h.c1 1, h.c1 2, h.c1 3, h.c1 4, h.c1 5, h.c1 6, h.c1 7, h.c1 8, ⟨h.hi, h.below⟩⟩
theorem S18.set {w : World} {x0 x1 x2 x3 x4 x5 x6 x7 x8 y0 y1 y2 y3 y4 y5 y6 y7 y8 : Value} {W : World} (h : S18 w x0 x1 x2 x3 x4 x5 x6 x7 x8 y0 y1 y2 y3 y4 y5 y6 y7 y8 W) (i : Nat) (v : Value) : S18 w x0 x1 x2 x3 x4 x5 x6 x7 x8 y0 y1 y2 y3 y4 y5 y6 y7 y8 (W.setCell ⟨w.heap.size + 1 + 1, i, none⟩ v) := by
  obtain ⟨a0, a1, a2, a3, a4, a5, a6, a7, a8, b0, b1, b2, b3, b4, b5, b6, b7, b8, h⟩ := h
  have e0 : ∀ j, (W.setCell ⟨w.heap.size + 1 + 1, i, none⟩ v).cell? ⟨w.heap.size, j, none⟩ = W.cell? ⟨w.heap.size, j, none⟩ := fun j => World.cell?_setCell_other _ _ _ _ (by simp <;> omega)
  have e1 : ∀ j, (W.setCell ⟨w.heap.size + 1 + 1, i, none⟩ v).cell? ⟨w.heap.size + 1, j, none⟩ = W.cell? ⟨w.heap.size + 1, j, none⟩ := fun j => World.cell?_setCell_other _ _ _ _ (by simp <;> omega)
  exact ⟨(e0 _).trans a0, (e0 _).trans a1, (e0 _).trans a2, (e0 _).trans a3, (e0 _).trans a4, (e0 _).trans a5, (e0 _).trans a6, (e0 _).trans a7, (e0 _).trans a8, (e1 _).trans b0, (e1 _).trans b1, (e1 _).trans b2, (e1 _).trans b3, (e1 _).trans b4, (e1 _).trans b5, (e1 _).trans b6, (e1 _).trans b7, (e1 _).trans b8, ⟨by simpa using h.out.1, h.out.2.setCell (by simp only []; omega) _⟩⟩
theorem S18.set9 {w : World} {x0 x1 x2 x3 x4 x5 x6 x7 x8 y0 y1 y2 y3 y4 y5 y6 y7 y8 v0 v1 v2 v3 v4 v5 v6 v7 v8 : Value} {W : World} (h : S18 w x0 x1 x2 x3 x4 x5 x6 x7 x8 y0 y1 y2 y3 y4 y5 y6 y7 y8 W) : S18 w x0 x1 x2 x3 x4 x5 x6 x7 x8 y0 y1 y2 y3 y4 y5 y6 y7 y8 (((((((((W.setCell ⟨w.heap.size + 1 + 1, 0, none⟩ v0).setCell ⟨w.heap.size + 1 + 1, 1, none⟩ v1).setCell ⟨w.heap.size + 1 + 1, 2, none⟩ v2).setCell ⟨w.heap.size + 1 + 1, 3, none⟩ v3).setCell ⟨w.heap.size + 1 + 1, 4, none⟩ v4).setCell ⟨w.heap.size + 1 + 1, 5, none⟩ v5).setCell ⟨w.heap.size + 1 + 1, 6, none⟩ v6).setCell ⟨w.heap.size + 1 + 1, 7, none⟩ v7).setCell ⟨w.heap.size + 1 + 1, 8, none⟩ v8) := (S18.set (S18.set (S18.set (S18.set (S18.set (S18.set (S18.set (S18.set (S18.set h _ _) _ _) _ _) _ _) _ _) _ _) _ _) _ _) _ _)
theorem S18.below {w : World} {x0 x1 x2 x3 x4 x5 x6 x7 x8 y0 y1 y2 y3 y4 y5 y6 y7 y8 : Value} {W : World} (h : S18 w x0 x1 x2 x3 x4 x5 x6 x7 x8 y0 y1 y2 y3 y4 y5 y6 y7 y8 W) : Below w.heap.size w W := by
  obtain ⟨-, -, -, -, -, -, -, -, -, -, -, -, -, -, -, -, -, -, h⟩ := h
  exact h.out.2
abbrev Z18 (w W : World) : Prop := W.cell? ⟨w.heap.size + 1 + 1, 0, none⟩ = some (.int .i64 0) ∧ W.cell? ⟨w.heap.size + 1 + 1, 1, none⟩ = some (.bool false) ∧ W.cell? ⟨w.heap.size + 1 + 1, 2, none⟩ = some (.string ⟨#[]⟩) ∧ W.cell? ⟨w.heap.size + 1 + 1, 3, none⟩ = some (.bool false) ∧ W.cell? ⟨w.heap.size + 1 + 1, 4, none⟩ = some (.slice none 0 0) ∧ W.cell? ⟨w.heap.size + 1 + 1, 5, none⟩ = some (.slice none 0 0) ∧ W.cell? ⟨w.heap.size + 1 + 1, 6, none⟩ = some (.bool false) ∧ W.cell? ⟨w.heap.size + 1 + 1, 7, none⟩ = some (.slice none 0 0) ∧ W.cell? ⟨w.heap.size + 1 + 1, 8, none⟩ = some (.slice none 0 0) ∧ W.frozen? ⟨w.heap.size + 1 + 1, 0, none⟩ = false ∧ W.frozen? ⟨w.heap.size + 1 + 1, 1, none⟩ = false ∧ W.frozen? ⟨w.heap.size + 1 + 1, 2, none⟩ = false ∧ W.frozen? ⟨w.heap.size + 1 + 1, 3, none⟩ = false ∧ W.frozen? ⟨w.heap.size + 1 + 1, 4, none⟩ = false ∧ W.frozen? ⟨w.heap.size + 1 + 1, 5, none⟩ = false ∧ W.frozen? ⟨w.heap.size + 1 + 1, 6, none⟩ = false ∧ W.frozen? ⟨w.heap.size + 1 + 1, 7, none⟩ = false ∧ W.frozen? ⟨w.heap.size + 1 + 1, 8, none⟩ = false
theorem TB.z {w : World} {X Y : Array Value} {W : World} (h : TB w X Y W) : Z18 w W := ⟨h.c2 0, h.c2 1, h.c2 2, h.c2 3, h.c2 4, h.c2 5, h.c2 6, h.c2 7, h.c2 8, h.f2 0, h.f2 1, h.f2 2, h.f2 3, h.f2 4, h.f2 5, h.f2 6, h.f2 7, h.f2 8⟩
def MadeR (P : Value → Prop) (w : World) (e : Ending) (w' : World) : Prop := ∃ u, e = .returned u ∧ P u ∧ Below w.heap.size w w'
abbrev toldU : Value := .agg #[.int .i64 0, .bool false, .string ⟨#[]⟩, .bool false, .slice none 0 0, .slice none 0 0, .bool false, .slice none 0 0, .slice none 0 0]
set_option maxRecDepth 100000 in
set_option maxHeartbeats 16000000 in
theorem binary_gen (op : Int) (h0 : 0 ≤ op) (h1 : op < 12) (x0 x1 x2 x3 x4 x5 x6 x7 x8 y0 y1 y2 y3 y4 y5 y6 y7 y8 : Value) (PX PY : Value → Prop) (w : World)
    (hx : ∀ W, Below w.heap.size w W → Calls Tryz.prog 13 #[.agg #[x0, x1, x2, x3, x4, x5, x6, x7, x8]] W (MadeR PX W))
    (hy : ∀ W, Below w.heap.size w W → Calls Tryz.prog 13 #[.agg #[y0, y1, y2, y3, y4, y5, y6, y7, y8]] W (MadeR PY W))
    (hm : ∀ u v, PX u → PY v → ∀ W, Calls Tryz.prog 25 #[u, v] W fun e w' => e = .returned (.tuple #[unkV, unkV]) ∧ W = w') :
    Calls Tryz.prog 5 #[.int .i64 op, .agg #[x0, x1, x2, x3, x4, x5, x6, x7, x8], .agg #[y0, y1, y2, y3, y4, y5, y6, y7, y8]] w fun e w' => e = .returned toldU ∧ Below w.heap.size w w' := by
  obtain ⟨t, ht⟩ := oper_ok op h0 h1
  have HX : Aside0 (∀ W, Aside0 (TB w #[x0, x1, x2, x3, x4, x5, x6, x7, x8] #[y0, y1, y2, y3, y4, y5, y6, y7, y8] W) → Calls Tryz.prog 13 #[.agg #[x0, x1, x2, x3, x4, x5, x6, x7, x8]] W fun e w' => ∃ u, e = .returned u ∧ Aside0 (PX u) ∧ S18 w x0 x1 x2 x3 x4 x5 x6 x7 x8 y0 y1 y2 y3 y4 y5 y6 y7 y8 w' ∧ Aside0 (TB w #[x0, x1, x2, x3, x4, x5, x6, x7, x8] #[y0, y1, y2, y3, y4, y5, y6, y7, y8] w')) :=
    ⟨fun W hS => (hx W hS.out.below).mono (by rintro e w' ⟨u, rfl, hu, hb⟩; exact ⟨u, rfl, ⟨hu⟩, S18.mk (hS.out.step hb), ⟨hS.out.step hb⟩⟩)⟩
  have HY : Aside0 (∀ W, Aside0 (TB w #[x0, x1, x2, x3, x4, x5, x6, x7, x8] #[y0, y1, y2, y3, y4, y5, y6, y7, y8] W) → Calls Tryz.prog 13 #[.agg #[y0, y1, y2, y3, y4, y5, y6, y7, y8]] W fun e w' => ∃ u, e = .returned u ∧ Aside0 (PY u) ∧ S18 w x0 x1 x2 x3 x4 x5 x6 x7 x8 y0 y1 y2 y3 y4 y5 y6 y7 y8 w' ∧ Aside0 (TB w #[x0, x1, x2, x3, x4, x5, x6, x7, x8] #[y0, y1, y2, y3, y4, y5, y6, y7, y8] w')) :=
    ⟨fun W hS => (hy W hS.out.below).mono (by rintro e w' ⟨u, rfl, hu, hb⟩; exact ⟨u, rfl, ⟨hu⟩, S18.mk (hS.out.step hb), ⟨hS.out.step hb⟩⟩)⟩
  have HB : Aside0 (∀ u v W, Aside0 (PX u) → Aside0 (PY v) → Aside0 (TB w #[x0, x1, x2, x3, x4, x5, x6, x7, x8] #[y0, y1, y2, y3, y4, y5, y6, y7, y8] W) → Calls Tryz.prog 12 #[u, .int .i64 t, v] W fun e w' => e = .returned unkV ∧ S18 w x0 x1 x2 x3 x4 x5 x6 x7 x8 y0 y1 y2 y3 y4 y5 y6 y7 y8 w' ∧ Aside0 (TB w #[x0, x1, x2, x3, x4, x5, x6, x7, x8] #[y0, y1, y2, y3, y4, y5, y6, y7, y8] w')) :=
    ⟨fun u v W hu hv hS => (bin_u u v t W (hm u v hu.out hv.out)).mono (by rintro e w' ⟨rfl, hb⟩; exact ⟨rfl, S18.mk (hS.out.step hb), ⟨hS.out.step hb⟩⟩)⟩
  have HTo : Aside0 (∀ W, Aside0 (TB w #[x0, x1, x2, x3, x4, x5, x6, x7, x8] #[y0, y1, y2, y3, y4, y5, y6, y7, y8] W) → Calls Tryz.prog 11 #[unkV] W fun e w' => e = .returned toldU ∧ S18 w x0 x1 x2 x3 x4 x5 x6 x7 x8 y0 y1 y2 y3 y4 y5 y6 y7 y8 w' ∧ Z18 w w') :=
    ⟨fun W hS => (told_unknown W).mono (by rintro e w' ⟨rfl, hb⟩; exact ⟨rfl, S18.mk (hS.out.step hb), (hS.out.step hb).z⟩)⟩
  have HO := Aside0.mk ht
  clear hx hy hm h0 h1 ht
  go_enter Tryz.func5, Tryz.ntmps5
  go_wp2_with fail
  refine (HO.out _).mono ?_
  rintro e w1 ⟨rfl, hb⟩
  have hz := hb.size
  simp only [World.size_alloc] at hz
  have HT : Aside0 (TB w #[x0, x1, x2, x3, x4, x5, x6, x7, x8] #[y0, y1, y2, y3, y4, y5, y6, y7, y8] w1) :=
    ⟨(below_alloc (below_alloc (below_alloc (Below.refl _ _) _) _) _).trans (hb.mono (by simp <;> omega)), by omega, fun i => (hb.cell (p := ⟨w.heap.size, i, none⟩) (by simp only [World.size_alloc]; omega)).trans ((ca (by simp only [World.size_alloc]; omega)).trans ((ca (by simp)).trans (cn rfl))), fun i => (hb.cell (p := ⟨w.heap.size + 1, i, none⟩) (by simp only [World.size_alloc]; omega)).trans ((ca (by simp)).trans (cn (by simp))), fun i => (hb.cell (p := ⟨w.heap.size + 2, i, none⟩) (by simp only [World.size_alloc]; omega)).trans (cn (by simp)), fun i => (hb.frozen (p := ⟨w.heap.size + 2, i, none⟩) (by simp only [World.size_alloc]; omega)).trans (fn (by simp))⟩
  clear hb hz HO
  have HS : Aside0 (S18 w x0 x1 x2 x3 x4 x5 x6 x7 x8 y0 y1 y2 y3 y4 y5 y6 y7 y8 w1.drew) := ⟨S18.mk HT.out.drew⟩
  have HT := Aside0.mk HT.out.drew
  go_wp2_with fail
  go_region_held3 (fun W => W.cell? ⟨w.heap.size, 0, none⟩ = some x0 ∧ W.cell? ⟨w.heap.size, 1, none⟩ = some x1 ∧ W.cell? ⟨w.heap.size, 2, none⟩ = some x2 ∧ W.cell? ⟨w.heap.size, 3, none⟩ = some x3 ∧ W.cell? ⟨w.heap.size, 4, none⟩ = some x4 ∧ W.cell? ⟨w.heap.size, 5, none⟩ = some x5 ∧ W.cell? ⟨w.heap.size, 6, none⟩ = some x6 ∧ W.cell? ⟨w.heap.size, 7, none⟩ = some x7 ∧ W.cell? ⟨w.heap.size, 8, none⟩ = some x8 ∧ W.cell? ⟨w.heap.size + 1, 0, none⟩ = some y0 ∧ W.cell? ⟨w.heap.size + 1, 1, none⟩ = some y1 ∧ W.cell? ⟨w.heap.size + 1, 2, none⟩ = some y2 ∧ W.cell? ⟨w.heap.size + 1, 3, none⟩ = some y3 ∧ W.cell? ⟨w.heap.size + 1, 4, none⟩ = some y4 ∧ W.cell? ⟨w.heap.size + 1, 5, none⟩ = some y5 ∧ W.cell? ⟨w.heap.size + 1, 6, none⟩ = some y6 ∧ W.cell? ⟨w.heap.size + 1, 7, none⟩ = some y7 ∧ W.cell? ⟨w.heap.size + 1, 8, none⟩ = some y8 ∧ Aside0 (w.heap.size + 2 < W.heap.size ∧ Below w.heap.size w W))
    (first | with_reducible assumption | with_reducible exact HS.out | with_reducible exact S18.set9 (by with_reducible assumption))
    (first
      | (go_at_call 13; (with_reducible refine (HX.out _ (by with_reducible assumption)).mono ?_); rintro e w' ⟨u, rfl, hu, hsi, htb⟩)
      | (go_at_call 13; (with_reducible refine (HY.out _ (by with_reducible assumption)).mono ?_); rintro e w' ⟨u, rfl, hu, hsi, htb⟩)
      | (go_at_call 12; (with_reducible refine (HB.out _ _ _ (by with_reducible assumption) (by with_reducible assumption) (by with_reducible assumption)).mono ?_); rintro e w' ⟨rfl, hsi, htb⟩)
      | (go_at_call 11; (with_reducible refine (HTo.out _ (by with_reducible assumption)).mono ?_); rintro e w' ⟨rfl, hsi, z0, z1, z2, z3, z4, z5, z6, z7, z8, q0, q1, q2, q3, q4, q5, q6, q7, q8⟩))
  all_goals
    go_wp2
    refine bodyPost_ret (v := toldU) (by simp [toldU, results, Tryz.results5, go_sem, z0, z1, z2, z3, z4, z5, z6, z7, z8]) rfl ⟨rfl, ?_⟩
    exact (S18.set9 hsi).below
end Go.Proofs.YtbcgeeaboecmgaaGreatDoor

namespace Go.Proofs.YtbcgeeaboecmgaaGreatDoor
open Go Go.RowKit Go.Proofs.YtbcgeeaboecmgaaGreatDoorW.PrintWords
set_option linter.unusedVariables false
set_option linter.unusedSimpArgs false

theorem comp_ok (op : Int) (h0 : 0 ≤ op) (h1 : op < 6) : ∃ t, ∀ w, Calls Tryz.prog 14 #[.int .i64 op] w fun e w' => e = .returned (.tuple #[.int .i64 t, .bool true]) ∧ Below w.heap.size w w' := by
  have h : ∃ t, Ps.impl_comparison.f op = some (t, true) := by
    have : op = 0 ∨ op = 1 ∨ op = 2 ∨ op = 3 ∨ op = 4 ∨ op = 5 := by omega
    rcases this with rfl | rfl | rfl | rfl | rfl | rfl <;> exact ⟨_, rfl⟩
  obtain ⟨t, ht⟩ := h
  exact ⟨t, fun w => Ps.impl_comparison.calls op t true w ht⟩
/-- What stands while impl.Compare reckons: two values in boxes, nothing older turned. -/
structure TC (w : World) (X Y : Array Value) (W : World) : Prop where
  below : Below w.heap.size w W
  hi : w.heap.size + 2 ≤ W.heap.size
  c0 : ∀ i, W.cell? ⟨w.heap.size, i, none⟩ = X[i]?
  c1 : ∀ i, W.cell? ⟨w.heap.size + 1, i, none⟩ = Y[i]?
theorem TC.step {w W W' : World} {X Y : Array Value} (h : TC w X Y W) (hb : Below W.heap.size W W') : TC w X Y W' :=
  have hi := h.hi
  ⟨h.below.trans (hb.mono (by omega)), Nat.le_trans h.hi hb.size, fun i => (hb.cell (p := ⟨w.heap.size, i, none⟩) (by simp only []; omega)).trans (h.c0 i), fun i => (hb.cell (p := ⟨w.heap.size + 1, i, none⟩) (by simp only []; omega)).trans (h.c1 i)⟩
theorem TC.drew {w W : World} {X Y : Array Value} (h : TC w X Y W) : TC w X Y W.drew := h.step (below_drew (Below.refl _ _))
abbrev C18 (w : World) (x0 x1 x2 x3 x4 x5 x6 x7 x8 y0 y1 y2 y3 y4 y5 y6 y7 y8 : Value) (W : World) : Prop :=
  W.cell? ⟨w.heap.size, 0, none⟩ = some x0 ∧ W.cell? ⟨w.heap.size, 1, none⟩ = some x1 ∧ W.cell? ⟨w.heap.size, 2, none⟩ = some x2 ∧ W.cell? ⟨w.heap.size, 3, none⟩ = some x3 ∧ W.cell? ⟨w.heap.size, 4, none⟩ = some x4 ∧ W.cell? ⟨w.heap.size, 5, none⟩ = some x5 ∧ W.cell? ⟨w.heap.size, 6, none⟩ = some x6 ∧ W.cell? ⟨w.heap.size, 7, none⟩ = some x7 ∧ W.cell? ⟨w.heap.size, 8, none⟩ = some x8 ∧ W.cell? ⟨w.heap.size + 1, 0, none⟩ = some y0 ∧ W.cell? ⟨w.heap.size + 1, 1, none⟩ = some y1 ∧ W.cell? ⟨w.heap.size + 1, 2, none⟩ = some y2 ∧ W.cell? ⟨w.heap.size + 1, 3, none⟩ = some y3 ∧ W.cell? ⟨w.heap.size + 1, 4, none⟩ = some y4 ∧ W.cell? ⟨w.heap.size + 1, 5, none⟩ = some y5 ∧ W.cell? ⟨w.heap.size + 1, 6, none⟩ = some y6 ∧ W.cell? ⟨w.heap.size + 1, 7, none⟩ = some y7 ∧ W.cell? ⟨w.heap.size + 1, 8, none⟩ = some y8 ∧ Aside0 (TC w #[x0, x1, x2, x3, x4, x5, x6, x7, x8] #[y0, y1, y2, y3, y4, y5, y6, y7, y8] W)
theorem C18.mk {w : World} {x0 x1 x2 x3 x4 x5 x6 x7 x8 y0 y1 y2 y3 y4 y5 y6 y7 y8 : Value} {W : World} (h : TC w #[x0, x1, x2, x3, x4, x5, x6, x7, x8] #[y0, y1, y2, y3, y4, y5, y6, y7, y8] W) : C18 w x0 x1 x2 x3 x4 x5 x6 x7 x8 y0 y1 y2 y3 y4 y5 y6 y7 y8 W :=
  ⟨h.c0 0, h.c0 1, h.c0 2, h.c0 3, h.c0 4, h.c0 5, h.c0 6, h.c0 7, h.c0 8, h.c1 0, h.c1 1, h.c1 2, h.c1 3, h.c1 4, h.c1 5, h.c1 6, h.c1 7, h.c1 8, ⟨h⟩⟩
theorem C18.out {w : World} {x0 x1 x2 x3 x4 x5 x6 x7 x8 y0 y1 y2 y3 y4 y5 y6 y7 y8 : Value} {W : World} (h : C18 w x0 x1 x2 x3 x4 x5 x6 x7 x8 y0 y1 y2 y3 y4 y5 y6 y7 y8 W) : TC w #[x0, x1, x2, x3, x4, x5, x6, x7, x8] #[y0, y1, y2, y3, y4, y5, y6, y7, y8] W := by
  obtain ⟨-, -, -, -, -, -, -, -, -, -, -, -, -, -, -, -, -, -, h⟩ := h
  exact h.out
set_option maxRecDepth 100000 in
set_option maxHeartbeats 16000000 in
theorem compare_gen (op : Int) (h0 : 0 ≤ op) (h1 : op < 6) (x0 x1 x2 x3 x4 x5 x6 x7 x8 y0 y1 y2 y3 y4 y5 y6 y7 y8 : Value) (PX PY : Value → Prop) (w : World)
    (hx : ∀ W, Below w.heap.size w W → Calls Tryz.prog 13 #[.agg #[x0, x1, x2, x3, x4, x5, x6, x7, x8]] W (MadeR PX W))
    (hy : ∀ W, Below w.heap.size w W → Calls Tryz.prog 13 #[.agg #[y0, y1, y2, y3, y4, y5, y6, y7, y8]] W (MadeR PY W))
    (hm : ∀ u v, PX u → PY v → ∀ W, Calls Tryz.prog 25 #[u, v] W fun e w' => e = .returned (.tuple #[unkV, unkV]) ∧ W = w') :
    Calls Tryz.prog 6 #[.int .i64 op, .agg #[x0, x1, x2, x3, x4, x5, x6, x7, x8], .agg #[y0, y1, y2, y3, y4, y5, y6, y7, y8]] w fun e w' => e = .returned (.bool false) ∧ Below w.heap.size w w' := by
  obtain ⟨t, ht⟩ := comp_ok op h0 h1
  have HX : Aside0 (∀ W, C18 w x0 x1 x2 x3 x4 x5 x6 x7 x8 y0 y1 y2 y3 y4 y5 y6 y7 y8 W → Calls Tryz.prog 13 #[.agg #[x0, x1, x2, x3, x4, x5, x6, x7, x8]] W fun e w' => ∃ u, e = .returned u ∧ Aside0 (PX u) ∧ C18 w x0 x1 x2 x3 x4 x5 x6 x7 x8 y0 y1 y2 y3 y4 y5 y6 y7 y8 w') :=
    ⟨fun W hS => (hx W hS.out.below).mono (by rintro e w' ⟨u, rfl, hu, hb⟩; exact ⟨u, rfl, ⟨hu⟩, C18.mk (hS.out.step hb)⟩)⟩
  have HY : Aside0 (∀ W, C18 w x0 x1 x2 x3 x4 x5 x6 x7 x8 y0 y1 y2 y3 y4 y5 y6 y7 y8 W → Calls Tryz.prog 13 #[.agg #[y0, y1, y2, y3, y4, y5, y6, y7, y8]] W fun e w' => ∃ u, e = .returned u ∧ Aside0 (PY u) ∧ C18 w x0 x1 x2 x3 x4 x5 x6 x7 x8 y0 y1 y2 y3 y4 y5 y6 y7 y8 w') :=
    ⟨fun W hS => (hy W hS.out.below).mono (by rintro e w' ⟨u, rfl, hu, hb⟩; exact ⟨u, rfl, ⟨hu⟩, C18.mk (hS.out.step hb)⟩)⟩
  have HB : Aside0 (∀ u v W, Aside0 (PX u) → Aside0 (PY v) → C18 w x0 x1 x2 x3 x4 x5 x6 x7 x8 y0 y1 y2 y3 y4 y5 y6 y7 y8 W → Calls Tryz.prog 15 #[u, .int .i64 t, v] W fun e w' => e = .returned (.bool false) ∧ C18 w x0 x1 x2 x3 x4 x5 x6 x7 x8 y0 y1 y2 y3 y4 y5 y6 y7 y8 w') :=
    ⟨fun u v W hu hv hS => (cmp_u u v t W (hm u v hu.out hv.out)).mono (by rintro e w' ⟨rfl, hb⟩; exact ⟨rfl, C18.mk (hS.out.step hb)⟩)⟩
  have HO := Aside0.mk ht
  clear hx hy hm h0 h1 ht
  go_enter Tryz.func6, Tryz.ntmps6
  go_wp2_with fail
  refine (HO.out _).mono ?_
  rintro e w1 ⟨rfl, hb⟩
  have hz := hb.size
  simp only [World.size_alloc] at hz
  have HT : Aside0 (TC w #[x0, x1, x2, x3, x4, x5, x6, x7, x8] #[y0, y1, y2, y3, y4, y5, y6, y7, y8] w1) :=
    ⟨(below_alloc (below_alloc (Below.refl _ _) _) _).trans (hb.mono (by simp <;> omega)), by omega, fun i => (hb.cell (p := ⟨w.heap.size, i, none⟩) (by simp only [World.size_alloc]; omega)).trans ((ca (by simp)).trans (cn rfl)), fun i => (hb.cell (p := ⟨w.heap.size + 1, i, none⟩) (by simp only [World.size_alloc]; omega)).trans (cn (by simp))⟩
  clear hb hz HO
  have HS : Aside0 (C18 w x0 x1 x2 x3 x4 x5 x6 x7 x8 y0 y1 y2 y3 y4 y5 y6 y7 y8 w1.drew) := ⟨C18.mk HT.out.drew⟩
  go_wp2_with fail
  go_cut [6] (fun v6 wc => v6 = .bool false ∧ Aside0 (Below w.heap.size w wc))
  case first =>
    go_region_held3 (fun W => W.cell? ⟨w.heap.size, 0, none⟩ = some x0 ∧ W.cell? ⟨w.heap.size, 1, none⟩ = some x1 ∧ W.cell? ⟨w.heap.size, 2, none⟩ = some x2 ∧ W.cell? ⟨w.heap.size, 3, none⟩ = some x3 ∧ W.cell? ⟨w.heap.size, 4, none⟩ = some x4 ∧ W.cell? ⟨w.heap.size, 5, none⟩ = some x5 ∧ W.cell? ⟨w.heap.size, 6, none⟩ = some x6 ∧ W.cell? ⟨w.heap.size, 7, none⟩ = some x7 ∧ W.cell? ⟨w.heap.size, 8, none⟩ = some x8 ∧ W.cell? ⟨w.heap.size + 1, 0, none⟩ = some y0 ∧ W.cell? ⟨w.heap.size + 1, 1, none⟩ = some y1 ∧ W.cell? ⟨w.heap.size + 1, 2, none⟩ = some y2 ∧ W.cell? ⟨w.heap.size + 1, 3, none⟩ = some y3 ∧ W.cell? ⟨w.heap.size + 1, 4, none⟩ = some y4 ∧ W.cell? ⟨w.heap.size + 1, 5, none⟩ = some y5 ∧ W.cell? ⟨w.heap.size + 1, 6, none⟩ = some y6 ∧ W.cell? ⟨w.heap.size + 1, 7, none⟩ = some y7 ∧ W.cell? ⟨w.heap.size + 1, 8, none⟩ = some y8 ∧ Aside0 (TC w #[x0, x1, x2, x3, x4, x5, x6, x7, x8] #[y0, y1, y2, y3, y4, y5, y6, y7, y8] W))
      (first | with_reducible assumption | with_reducible exact HS.out)
      (first
        | (go_at_call 13; (with_reducible refine (HX.out _ (by with_reducible assumption)).mono ?_); rintro e w' ⟨u, rfl, hu, hsi⟩)
        | (go_at_call 13; (with_reducible refine (HY.out _ (by with_reducible assumption)).mono ?_); rintro e w' ⟨u, rfl, hu, hsi⟩)
        | (go_at_call 15; (with_reducible refine (HB.out _ _ _ (by with_reducible assumption) (by with_reducible assumption) (by with_reducible assumption)).mono ?_); rintro e w' ⟨rfl, hsi⟩))
    all_goals (go_wp2_with fail; go_meet)
    all_goals exact ⟨rfl, ⟨(C18.out hsi).below⟩⟩
  case rest =>
    obtain ⟨rfl, HW⟩ := hcut
    go_wp2
    go_ret
    exact ⟨rfl, HW.out⟩
end Go.Proofs.YtbcgeeaboecmgaaGreatDoor

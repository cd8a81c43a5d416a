/- math/big: Int at one word: Set, SetBits, Neg; Rat: SetInt, SetInt64 of 0, Num, Denom. -/
import Derived.Test.YtbcgeeaboecmgaaGreatDoorArith
import Derived.Deep.RegionWith
import Derived.Test.YtbcgeeaboecmgaaGreatDoorPs0
import Derived.Test.YtbcgeeaboecmgaaGreatDoorPs1
import Derived.Test.YtbcgeeaboecmgaaGreatDoorPs2
namespace Go.Proofs.YtbcgeeaboecmgaaGreatDoor
open Go Go.RowKit Go.Proofs.YtbcgeeaboecmgaaGreatDoorW.PrintWords
set_option linter.unusedVariables false
set_option linter.unusedSimpArgs false

/-- One old block apart, what was there stands as it was. -/
structure Kept1 (g : Nat) (w w' : World) : Prop where
  os : w'.os = w.os
  tape : w'.tape = w.tape
  output : w'.output = w.output
  size : w.heap.size ≤ w'.heap.size
  block : ∀ k, k < w.heap.size → k ≠ g → w'.heap[k]? = w.heap[k]?
theorem Kept1.refl (g : Nat) (w : World) : Kept1 g w w := ⟨rfl, rfl, rfl, Nat.le_refl _, fun _ _ _ => rfl⟩
theorem Kept1.below {g : Nat} {w w1 w' : World} {B : Nat} (h : Kept1 g w w1) (hB : w.heap.size ≤ B) (hb : Below B w1 w') : Kept1 g w w' :=
  ⟨hb.os.trans h.os, hb.tape.trans h.tape, hb.output.trans h.output, Nat.le_trans h.size hb.size, fun k hk hx => (hb.block k (by omega)).trans (h.block k hk hx)⟩
theorem Kept1.set {g : Nat} {w w' : World} (h : Kept1 g w w') (b i : Nat) (v : Value) (hg : b = g ∨ w.heap.size ≤ b) : Kept1 g w (w'.setCell ⟨b, i, none⟩ v) :=
  have k := (Below.refl 0 w').setCell (p := ⟨b, i, none⟩) (Nat.zero_le _) v
  ⟨k.os.trans h.os, k.tape.trans h.tape, k.output.trans h.output, Nat.le_trans h.size k.size, fun j hj hx => (Below.heap_setCell w' ⟨b, i, none⟩ v j (by simp only []; omega)).trans (h.block j hj hx)⟩
theorem Kept1.alloc {g : Nat} {w w' : World} (h : Kept1 g w w') (o : Obj) : Kept1 g w (w'.alloc o) := h.below (B := w'.heap.size) h.size ((Below.refl _ _).alloc (Nat.le_refl _) o)
theorem Kept1.drew {g : Nat} {w w' : World} (h : Kept1 g w w') : Kept1 g w w'.drew := h.below (B := w'.heap.size) h.size (below_drew (Below.refl _ _))
theorem Kept1.trans {g : Nat} {w w1 w' : World} (h : Kept1 g w w1) (k : Kept1 g w1 w') : Kept1 g w w' :=
  ⟨k.os.trans h.os, k.tape.trans h.tape, k.output.trans h.output, Nat.le_trans h.size k.size, fun j hj hx => (k.block j (by have := h.size; omega) hx).trans (h.block j hj hx)⟩
/-- .. where the block is a new one all that was there stands. -/
theorem Kept1.new {g : Nat} {w w1 w' : World} {B : Nat} (h : Kept1 g w1 w') (hb : Below B w w1) (hB : B ≤ w1.heap.size) (hg : B ≤ g) : Below B w w' :=
  ⟨h.os.trans hb.os, h.tape.trans hb.tape, h.output.trans hb.output, Nat.le_trans hb.size h.size, fun k hk => (h.block k (by omega) (by omega)).trans (hb.block k hk)⟩
theorem Kept1.cell {g : Nat} {w w' : World} (h : Kept1 g w w') {k i : Nat} (hk : k < w.heap.size) (hg : k ≠ g) : w'.cell? ⟨k, i, none⟩ = w.cell? ⟨k, i, none⟩ := World.cell?_of_block (w := w) (h.block k hk hg)
theorem Kept1.frozen {g : Nat} {w w' : World} (h : Kept1 g w w') {k i : Nat} (hk : k < w.heap.size) (hg : k ≠ g) : w'.frozen? ⟨k, i, none⟩ = w.frozen? ⟨k, i, none⟩ := World.frozen?_of_block (w := w) (h.block k hk hg)
/-- A block of plain cells. -/
def CellsAt (w : World) (b : Nat) : Prop := ∃ cs ty, w.heap[b]? = some (.cells cs ty (0, 0))
theorem CellsAt.lt {w : World} {b : Nat} (h : CellsAt w b) : b < w.heap.size := by
  obtain ⟨cs, ty, h⟩ := h
  apply Decidable.byContradiction
  intro hn
  rw [Array.getElem?_eq_none (by omega)] at h
  simp at h
theorem CellsAt.set {w : World} {b : Nat} (h : CellsAt w b) (g i : Nat) (v : Value) : CellsAt (w.setCell ⟨g, i, none⟩ v) b := by
  obtain ⟨cs, ty, h⟩ := h
  by_cases e : b = g
  · subst e
    exact ⟨_, ty, Go.heap_setCell_same w b i cs ty v h⟩
  · exact ⟨cs, ty, (Below.heap_setCell w ⟨g, i, none⟩ v b e).trans h⟩
theorem CellsAt.kept {g : Nat} {w w' : World} {b : Nat} (h : CellsAt w b) (hk : Kept1 g w w') (hb : b ≠ g) : CellsAt w' b := by
  have hl := h.lt
  obtain ⟨cs, ty, h⟩ := h
  exact ⟨cs, ty, (hk.block b hl hb).trans h⟩
theorem CellsAt.below {B : Nat} {w w' : World} {b : Nat} (h : CellsAt w b) (hb : Below B w w') (hB : b < B) : CellsAt w' b := by
  obtain ⟨cs, ty, h⟩ := h
  exact ⟨cs, ty, (hb.block b hB).trans h⟩
theorem CellsAt.drew {w : World} {b : Nat} (h : CellsAt w b) : CellsAt w.drew b := h
/-- Two Ints at two blocks are two. -/
theorem int_neq {a x o o' : Nat} (hne : a ≠ x) (W : World) (ha : CellsAt W a) (hx : CellsAt W x) :
    (binOp .neq 68 (.pointer (some ⟨a, o, none⟩)) (.pointer (some ⟨x, o', none⟩))).run Tryz.prog W = .ok (.bool true) W := by
  obtain ⟨ca, ta, ha⟩ := ha
  obtain ⟨cx, tx, hx⟩ := hx
  obtain ⟨j, hte⟩ : ∃ j, Tryz.prog.info? 121 = some j := Option.isSome_iff_exists.1 (by kernel_rfl)
  obtain ⟨d, hd⟩ : ∃ d, Op.maxDepth = d + 1 := ⟨Op.maxDepth - 1, by decide⟩
  have h5 : Tryz.t121.size = 2 := by kernel_rfl
  have hsz : (Tryz.t121.size = 0) = False := by rw [h5]; simp
  clear h5
  simp [binOp, Op.equal, hd, Op.equalIn, run_underlying Tryz.underlying68, run_sameAddr_other W (a := ⟨a, o, none⟩) (b := ⟨x, o', none⟩) (by simp [hne]) ha hx, sizeOf, hte, hsz, go_sem]
theorem int_same (a : Addr) (W : World) : (binOp .neq 68 (.pointer (some a)) (.pointer (some a))).run Tryz.prog W = .ok (.bool false) W := by
  obtain ⟨j, hte⟩ : ∃ j, Tryz.prog.info? 121 = some j := Option.isSome_iff_exists.1 (by kernel_rfl)
  obtain ⟨d, hd⟩ : ∃ d, Op.maxDepth = d + 1 := ⟨Op.maxDepth - 1, by decide⟩
  simp [binOp, Op.equal, hd, Op.equalIn, run_underlying Tryz.underlying68, run_sameAddr_same, sizeOf, hte, go_sem]
/-- An Int in memory. -/
structure IntAt (W : World) (b o : Nat) (neg : Bool) (v : Value) : Prop where
  c0 : W.cell? ⟨b, o, none⟩ = some (.bool neg)
  c1 : W.cell? ⟨b, o + 1, none⟩ = some v
  z0 : W.frozen? ⟨b, o, none⟩ = false
  z1 : W.frozen? ⟨b, o + 1, none⟩ = false
  cs : CellsAt W b
theorem IntAt.lt {W : World} {b o : Nat} {neg : Bool} {v : Value} (h : IntAt W b o neg v) : b < W.heap.size := World.block_lt_of_cell? W _ h.c0
theorem IntAt.kept {W W' : World} {b o g : Nat} {neg : Bool} {v : Value} (h : IntAt W b o neg v) (hk : Kept1 g W W') (hg : b ≠ g) : IntAt W' b o neg v :=
  ⟨(hk.cell h.lt hg).trans h.c0, (hk.cell h.lt hg).trans h.c1, (hk.frozen h.lt hg).trans h.z0, (hk.frozen h.lt hg).trans h.z1, h.cs.kept hk hg⟩
theorem IntAt.below {W W' : World} {b o B : Nat} {neg : Bool} {v : Value} (h : IntAt W b o neg v) (hk : Below B W W') (hB : b < B) : IntAt W' b o neg v :=
  ⟨(hk.cell (p := ⟨b, o, none⟩) hB).trans h.c0, (hk.cell (p := ⟨b, o + 1, none⟩) hB).trans h.c1, (hk.frozen (p := ⟨b, o, none⟩) hB).trans h.z0, (hk.frozen (p := ⟨b, o + 1, none⟩) hB).trans h.z1, h.cs.below hk hB⟩
theorem N1.kept {W W' : World} {v : Value} {x : Int} {g : Nat} (h : N1 W v x) (hk : Kept1 g W W') (hg : ∀ k, v.ownBlock = some k → k ≠ g) : N1 W' v x := by
  cases h with
  | zero A c => exact .zero A c
  | one g' c x h0 h1 hc hx hz =>
    have hl : g' < W.heap.size := World.block_lt_of_cell? W _ hx
    have hne : g' ≠ g := hg g' rfl
    exact .one g' c x h0 h1 hc ((hk.cell hl hne).trans hx) ((hk.frozen hl hne).trans hz)
/-- What Set leaves at an Int that held nothing. -/
def SetR (w : World) (zb zo : Nat) (neg : Bool) (x : Int) (e : Ending) (w' : World) : Prop :=
  ∃ v', e = .returned (.pointer (some ⟨zb, zo, none⟩)) ∧ N1 w' v' x ∧ IntAt w' zb zo neg v' ∧ Kept1 zb w w' ∧ (∀ k, v'.ownBlock = some k → w.heap.size ≤ k) ∧ (∀ i, i ≠ zo → i ≠ zo + 1 → w'.cell? ⟨zb, i, none⟩ = w.cell? ⟨zb, i, none⟩) ∧ (∀ i, w'.frozen? ⟨zb, i, none⟩ = w.frozen? ⟨zb, i, none⟩)
/-- The world behind two stores into an Int. -/
def putI (w : World) (b o : Nat) (neg : Bool) (v : Value) : World := (w.setCell ⟨b, o + 1, none⟩ v).setCell ⟨b, o, none⟩ (.bool neg)
theorem putI_int {w : World} {b o : Nat} {neg neg0 : Bool} {v v0 : Value} (h : IntAt w b o neg0 v0) : IntAt (putI w b o neg v) b o neg v := by
  unfold putI
  refine ⟨World.cell?_setCell_same _ _ _ ((World.cell?_setCell_other _ _ _ _ (by simp)).trans h.c0), (World.cell?_setCell_other _ _ _ _ (by simp)).trans (World.cell?_setCell_same _ _ _ h.c1), by simp [h.z0], by simp [h.z1], (h.cs.set _ _ _).set _ _ _⟩
theorem putI_kept {w : World} {b o : Nat} {neg : Bool} {v : Value} : Kept1 b w (putI w b o neg v) := by
  unfold putI
  exact ((Kept1.refl b w).set b (o + 1) _ (.inl rfl)).set b o _ (.inl rfl)
theorem putI_cell {w : World} {b o : Nat} {neg : Bool} {v : Value} (i : Nat) (h0 : i ≠ o) (h1 : i ≠ o + 1) : (putI w b o neg v).cell? ⟨b, i, none⟩ = w.cell? ⟨b, i, none⟩ := by
  unfold putI
  exact (World.cell?_setCell_other _ _ _ _ (by simp [h0])).trans (World.cell?_setCell_other _ _ _ _ (by simp [h1]))
theorem putI_frozen {w : World} {b o : Nat} {neg : Bool} {v : Value} (p : Addr) : (putI w b o neg v).frozen? p = w.frozen? p := by unfold putI; simp
theorem putI_size {w : World} {b o : Nat} {neg : Bool} {v : Value} : (putI w b o neg v).heap.size = w.heap.size := by unfold putI; simp
theorem set_end1 {w : World} {zb zo : Nat} {neg neg0 : Bool} {x : Int} {v0 : Value} (h : IntAt w zb zo neg0 v0) (h0 : 0 < x) (h1 : x < 18446744073709551616) :
    SetR w zb zo neg x (.returned (.pointer (some ⟨zb, zo, none⟩))) (((putI w zb zo neg (.slice (some ⟨w.heap.size, 0, none⟩) 1 1)).alloc (.cells #[.int .u64 x] 132)).drew) := by
  have hs : (putI w zb zo neg (.slice (some ⟨w.heap.size, 0, none⟩) 1 1)).heap.size = w.heap.size := putI_size
  have hI := putI_int (neg := neg) (v := .slice (some ⟨w.heap.size, 0, none⟩) 1 1) h
  have hb : Below w.heap.size (putI w zb zo neg (.slice (some ⟨w.heap.size, 0, none⟩) 1 1)) ((putI w zb zo neg (.slice (some ⟨w.heap.size, 0, none⟩) 1 1)).alloc (.cells #[.int .u64 x] 132)).drew := by
    have := below_drew (below_alloc (Below.refl (putI w zb zo neg (.slice (some ⟨w.heap.size, 0, none⟩) 1 1)).heap.size _) (.cells #[.int .u64 x] 132))
    rw [hs] at this
    exact this
  refine ⟨_, rfl, .one w.heap.size 1 x h0 h1 (Nat.le_refl _) (cn hs.symm) (fn hs.symm), hI.below hb h.lt, putI_kept.below (Nat.le_refl _) hb, ?_, ?_, ?_⟩
  · intro k hk
    simp [Value.ownBlock] at hk
    omega
  · intro i hi hi1
    exact (hb.cell (p := ⟨zb, i, none⟩) h.lt).trans (putI_cell i hi hi1)
  · intro i
    exact (hb.frozen (p := ⟨zb, i, none⟩) h.lt).trans (putI_frozen _)
theorem set_end0 {w : World} {zb zo : Nat} {neg neg0 : Bool} {v0 : Value} (h : IntAt w zb zo neg0 v0) :
    SetR w zb zo neg 0 (.returned (.pointer (some ⟨zb, zo, none⟩))) (putI w zb zo neg (.slice none 0 0)).drew := by
  have hs : (putI w zb zo neg (.slice none 0 0)).heap.size = w.heap.size := putI_size
  have hI := putI_int (neg := neg) (v := .slice none 0 0) h
  have hb : Below w.heap.size (putI w zb zo neg (.slice none 0 0)) (putI w zb zo neg (.slice none 0 0)).drew := by
    have := below_drew (Below.refl (putI w zb zo neg (.slice none 0 0)).heap.size (putI w zb zo neg (.slice none 0 0)))
    rw [hs] at this
    exact this
  refine ⟨_, rfl, .zero none 0, hI.below hb h.lt, putI_kept.below (Nat.le_refl _) hb, ?_, ?_, ?_⟩
  · intro k hk
    simp [Value.ownBlock] at hk
  · intro i hi hi1
    exact (hb.cell (p := ⟨zb, i, none⟩) h.lt).trans (putI_cell i hi hi1)
  · intro i
    exact (hb.frozen (p := ⟨zb, i, none⟩) h.lt).trans (putI_frozen _)
set_option maxRecDepth 100000 in
set_option maxHeartbeats 1000000 in
theorem int_set1 (zb zo xb xo g c : Nat) (x : Int) (neg neg0 : Bool) (w : World) (hne : zb ≠ xb) (hz : IntAt w zb zo neg0 (.slice none 0 0)) (hx : IntAt w xb xo neg (.slice (some ⟨g, 0, none⟩) 1 c)) (h0 : 0 < x) (h1 : x < 18446744073709551616) (hg : w.cell? ⟨g, 0, none⟩ = some (.int .u64 x)) :
    Calls Tryz.prog 168 #[.pointer (some ⟨zb, zo, none⟩), .pointer (some ⟨xb, xo, none⟩)] w (SetR w zb zo neg x) := by
  have hn := int_neq (o := zo) (o' := xo) hne w hz.cs hx.cs
  have zc0 := hz.c0
  have zc1 := hz.c1
  have zz0 := hz.z0
  have zz1 := hz.z1
  have xc0 := hx.c0
  have xc1 := hx.c1
  have HS := Aside0.mk (fun W (hb : Below w.heap.size w W) => set1 ⟨g, 0, none⟩ c x W ((hb.cell (p := ⟨g, 0, none⟩) (World.block_lt_of_cell? w _ hg)).trans hg))
  have HX := Aside0.mk (And.intro hz (And.intro hx (And.intro hne (And.intro h0 h1))))
  have lz := hz.lt
  have lx := hx.lt
  have hne2 : ¬ xb = zb := fun h => hne h.symm
  have hne3 : ¬ zb = xb := hne
  clear hne hz hx h0 h1 hg
  go_enter Tryz.func168, Tryz.ntmps168
  go_wp2
  go_region_with (go_at_call 94; refine (HS.out _ (below_drew (Below.refl _ _))).mono ?_; rintro e w' ⟨rfl, rfl⟩)
  all_goals
    go_wp2
    go_ret
    exact set_end1 HX.out.1 HX.out.2.2.2.1 HX.out.2.2.2.2
set_option maxRecDepth 100000 in
set_option maxHeartbeats 1000000 in
theorem int_set0 (zb zo xb xo c : Nat) (A : Option Addr) (neg neg0 : Bool) (w : World) (hne : zb ≠ xb) (hz : IntAt w zb zo neg0 (.slice none 0 0)) (hx : IntAt w xb xo neg (.slice A 0 c)) :
    Calls Tryz.prog 168 #[.pointer (some ⟨zb, zo, none⟩), .pointer (some ⟨xb, xo, none⟩)] w (SetR w zb zo neg 0) := by
  have hn := int_neq (o := zo) (o' := xo) hne w hz.cs hx.cs
  have zc0 := hz.c0
  have zc1 := hz.c1
  have zz0 := hz.z0
  have zz1 := hz.z1
  have xc0 := hx.c0
  have xc1 := hx.c1
  have HX := Aside0.mk (And.intro hz (And.intro hx hne))
  have lz := hz.lt
  have lx := hx.lt
  have hne2 : ¬ xb = zb := fun h => hne h.symm
  have hne3 : ¬ zb = xb := hne
  clear hne hz hx
  go_enter Tryz.func168, Tryz.ntmps168
  go_wp2
  go_region_with (go_at_call 94; refine (set0 A c _).mono ?_; rintro e w' ⟨rfl, rfl⟩)
  all_goals
    go_wp2
    go_ret
    exact set_end0 HX.out.1
/-- Set, at one word or none. -/
theorem int_set (zb zo xb xo : Nat) (v : Value) (x : Int) (neg neg0 : Bool) (w : World) (hne : zb ≠ xb) (hz : IntAt w zb zo neg0 (.slice none 0 0)) (hx : IntAt w xb xo neg v) (hv : N1 w v x) :
    Calls Tryz.prog 168 #[.pointer (some ⟨zb, zo, none⟩), .pointer (some ⟨xb, xo, none⟩)] w (SetR w zb zo neg x) := by
  cases hv with
  | zero A c => exact int_set0 zb zo xb xo c A neg neg0 w hne hz hx
  | one g c x h0 h1 hc hg hz' => exact int_set1 zb zo xb xo g c x neg neg0 w hne hz hx h0 h1 hg
theorem N1.own {W : World} {B : Nat} {T : TypeId} {v : Value} {x : Int} (h0 : 0 < x) (h1 : x < 18446744073709551616) (h : W.ownsRow B T 1 v 1 [.int .u64 x]) : N1 W v x ∧ ∀ k, v.ownBlock = some k → B ≤ k ∧ k < W.heap.size := by
  have hlt := h.lt
  obtain ⟨hl, h | ⟨g, cap, cur, rfl, hB, hh, k1, k2, k3, k4⟩⟩ := h
  · omega
  refine ⟨.one g cap x h0 h1 k1 ?_ ?_, hlt⟩
  · have e0 : cur.toList[0]? = some (.int .u64 x) := by
      have : (cur.toList.take (1 * 1))[0]? = some (.int .u64 x) := by rw [k4]; rfl
      rw [List.getElem?_take] at this
      simpa using this
    simp [World.cell?, hh]
    simpa using e0
  · simp [World.frozen?, hh]
/-- The number that a list of at most one word has. -/
def hd0 (l : List Int) : Int := l.headD 0
def Short (l : List Int) : Prop := l = [] ∨ ∃ x, l = [x] ∧ 0 < x ∧ x < 18446744073709551616
def WoR (l : List Int) (w : World) (e : Ending) (w' : World) : Prop := ∃ v, e = .returned v ∧ N1 w' v (hd0 l) ∧ (∀ k, v.ownBlock = some k → w.heap.size ≤ k ∧ k < w'.heap.size) ∧ Below w.heap.size w w'
theorem wordsOf1 (A : Option Addr) (c : Nat) (l : List Int) (hl : Short l) (w : World) (hr : (Kd.int .u64).C w A l.length l) (hc : l.length ≤ c) :
    Calls Tryz.prog 120 #[.slice A l.length c] w (WoR l w) := by
  have hf : Ps.impl_wordsOf.f 10 l = some l := by
    rcases hl with rfl | ⟨x, rfl, _, _⟩
    · rfl
    · simp [Ps.impl_wordsOf.f, Ps.impl_wordsOf.l0, rd, wrap64]
  refine (Ps.impl_wordsOf.calls 10 A c l l w hr hc hf).mono ?_
  rintro e w' ⟨v, he, hR, hb⟩
  have ho := Kd.own_of_R hR
  rcases hl with rfl | ⟨x, rfl, h0, h1⟩
  · refine ⟨v, he, ?_, ho.lt, hb⟩
    obtain ⟨_, ⟨rfl, _⟩ | ⟨g, cap, cur, rfl, _⟩⟩ := ho
    · exact .zero none 0
    · exact .zero _ cap
  · have := N1.own h0 h1 ho
    exact ⟨v, he, this.1, this.2, hb⟩
/-- What SetBits leaves. -/
def PutR (w : World) (zb zo : Nat) (neg : Bool) (v : Value) (e : Ending) (w' : World) : Prop := e = .returned (.pointer (some ⟨zb, zo, none⟩)) ∧ w' = putI w zb zo neg v
set_option maxRecDepth 100000 in
set_option maxHeartbeats 1000000 in
theorem setBits (zb zo : Nat) (v v0 : Value) (x : Int) (neg0 : Bool) (w : World) (hz : IntAt w zb zo neg0 v0) (hv : N1 w v x) :
    Calls Tryz.prog 119 #[.pointer (some ⟨zb, zo, none⟩), v] w (PutR w zb zo false v) := by
  have hn : Calls Tryz.prog 156 #[v] w fun e w' => e = .returned v ∧ w = w' := by
    cases hv with
    | zero A c => exact norm0 A c w
    | one g c x h0 h1 hc hx hzz => exact norm1 g c x (by rw [beq_eq_false_iff_ne]; omega) hc w hx
  have zc0 := hz.c0
  have zc1 := hz.c1
  have zz0 := hz.z0
  have zz1 := hz.z1
  have HN := Aside0.mk hn
  have hsh : ∃ A n c, v = .slice A n c := by cases hv <;> exact ⟨_, _, _, rfl⟩
  obtain ⟨A, n, c, rfl⟩ := hsh
  clear hz hv hn
  go_enter Tryz.func119, Tryz.ntmps119
  go_wp2_with fail
  refine HN.out.mono ?_
  rintro e w' ⟨rfl, rfl⟩
  go_wp2
  go_ret
  exact ⟨rfl, rfl⟩
set_option maxRecDepth 100000 in
set_option maxHeartbeats 1000000 in
theorem neg_self (zb : Nat) (v : Value) (x : Int) (neg : Bool) (w : World) (hz : IntAt w zb 0 neg v) (hv : N1 w v x) :
    Calls Tryz.prog 121 #[.pointer (some ⟨zb, 0, none⟩), .pointer (some ⟨zb, 0, none⟩)] w fun e w' => ∃ neg', e = .returned (.pointer (some ⟨zb, 0, none⟩)) ∧ w.setCell ⟨zb, 0, none⟩ (.bool neg') = w' := by
  have hs := int_same ⟨zb, 0, none⟩
  have zc0 := hz.c0
  have zc1 := hz.c1
  have zz0 := hz.z0
  have zz1 := hz.z1
  have hnot : ∀ (x : Bool) (w : World), (Op.unary .not (.bool x)).run Tryz.prog w = .ok (.bool (!x)) w := fun _ _ => rfl
  clear hz
  cases hv with
  | zero A c =>
    go_enter Tryz.func121, Tryz.ntmps121
    go_wp2
    go_ret
    exact ⟨_, rfl, rfl⟩
  | one g c x h0 h1 hc hx hzz =>
    go_enter Tryz.func121, Tryz.ntmps121
    go_wp2
    go_ret
    exact ⟨_, rfl, rfl⟩
end Go.Proofs.YtbcgeeaboecmgaaGreatDoor

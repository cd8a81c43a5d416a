/- math/big's Rat.norm at one word over 1. -/
import Derived.Test.YtbcgeeaboecmgaaGreatDoorBigE
import Derived.Test.YtbcgeeaboecmgaaGreatDoorBigD
import Derived.Defers
namespace Go.Proofs.YtbcgeeaboecmgaaGreatDoor
open Go Go.RowKit Go.Proofs.YtbcgeeaboecmgaaGreatDoorW.PrintWords
set_option linter.unusedVariables false
set_option linter.unusedSimpArgs false

theorem int_eql {a x o o' : Nat} (hne : a ≠ x) (W : World) (ha : CellsAt W a) (hx : CellsAt W x) :
    (binOp .eql 68 (.pointer (some ⟨a, o, none⟩)) (.pointer (some ⟨x, o', none⟩))).run Tryz.prog W = .ok (.bool false) W := by
  obtain ⟨ca, ta, ha⟩ := ha
  obtain ⟨cx, tx, hx⟩ := hx
  obtain ⟨j, hte⟩ : ∃ j, Tryz.prog.info? 121 = some j := Option.isSome_iff_exists.1 (by kernel_rfl)
  obtain ⟨d, hd⟩ : ∃ d, Op.maxDepth = d + 1 := ⟨Op.maxDepth - 1, by decide⟩
  have h5 : Tryz.t121.size = 2 := by kernel_rfl
  have hsz : (Tryz.t121.size = 0) = False := by rw [h5]; simp
  clear h5
  simp [binOp, Op.equal, hd, Op.equalIn, run_underlying Tryz.underlying68, run_sameAddr_other W (a := ⟨a, o, none⟩) (b := ⟨x, o', none⟩) (by simp [hne]) ha hx, sizeOf, hte, hsz, go_sem]
/-- Below a bound, one block apart, what was there stands as it was. -/
structure KeptB (B g : Nat) (w w' : World) : Prop where
  os : w'.os = w.os
  tape : w'.tape = w.tape
  output : w'.output = w.output
  size : w.heap.size ≤ w'.heap.size
  block : ∀ k, k < B → k ≠ g → w'.heap[k]? = w.heap[k]?
theorem Kept1.toB {g B : Nat} {w w' : World} (h : Kept1 g w w') (hB : B ≤ w.heap.size) : KeptB B g w w' := ⟨h.os, h.tape, h.output, h.size, fun k hk hg => h.block k (by omega) hg⟩
theorem KeptB.trans {g B : Nat} {w w1 w' : World} (h : KeptB B g w w1) (k : KeptB B g w1 w') : KeptB B g w w' :=
  ⟨k.os.trans h.os, k.tape.trans h.tape, k.output.trans h.output, Nat.le_trans h.size k.size, fun j hj hx => (k.block j hj hx).trans (h.block j hj hx)⟩
theorem KeptB.set {g B : Nat} {w w' : World} (h : KeptB B g w w') (b i : Nat) (v : Value) (hg : b = g ∨ B ≤ b) : KeptB B g w (w'.setCell ⟨b, i, none⟩ v) :=
  have k := (Below.refl 0 w').setCell (p := ⟨b, i, none⟩) (Nat.zero_le _) v
  ⟨k.os.trans h.os, k.tape.trans h.tape, k.output.trans h.output, Nat.le_trans h.size k.size, fun j hj hx => (Below.heap_setCell w' ⟨b, i, none⟩ v j (by simp only []; omega)).trans (h.block j hj hx)⟩
theorem KeptB.refl (B g : Nat) (w : World) : KeptB B g w w := ⟨rfl, rfl, rfl, Nat.le_refl _, fun _ _ _ => rfl⟩
theorem KeptB.below {g B B' : Nat} {w w1 w' : World} (h : KeptB B g w w1) (hB : B ≤ B') (hb : Below B' w1 w') : KeptB B g w w' :=
  ⟨hb.os.trans h.os, hb.tape.trans h.tape, hb.output.trans h.output, Nat.le_trans h.size hb.size, fun k hk hx => (hb.block k (by omega)).trans (h.block k hk hx)⟩
theorem Kept1.join {g : Nat} {w w1 w' : World} (h : Kept1 g w w1) (k : KeptB w.heap.size g w1 w') : Kept1 g w w' :=
  ⟨k.os.trans h.os, k.tape.trans h.tape, k.output.trans h.output, Nat.le_trans h.size k.size, fun j hj hx => (k.block j hj hx).trans (h.block j hj hx)⟩
set_option maxRecDepth 100000 in
set_option maxHeartbeats 400000 in
theorem setWordRow (g c : Nat) (hc : 1 ≤ c) (u : Value) (w : World) (h : w.cell? ⟨g, 0, none⟩ = some u) (hz : w.frozen? ⟨g, 0, none⟩ = false) : Calls Tryz.prog 107 #[.slice (some ⟨g, 0, none⟩) 1 c, .int .u64 1] w fun e w' => e = .returned (.slice (some ⟨g, 0, none⟩) 1 c) ∧ w.setCell ⟨g, 0, none⟩ (.int .u64 1) = w' := by
  have hle : decide (1 ≤ (c : Int)) = true := by simp; omega
  have hm : Calls Tryz.prog 153 #[.slice (some ⟨g, 0, none⟩) 1 c, .int .i64 1] w fun e w' => e = .returned (.slice (some ⟨g, 0, none⟩) 1 c) ∧ w = w' := by
    go_enter Tryz.func153, Tryz.ntmps153
    go_wp2
    go_ret
    exact ⟨rfl, rfl⟩
  have HM := Aside0.mk hm
  clear hm
  go_enter Tryz.func107, Tryz.ntmps107
  go_wp2_with (go_at_call 153; refine HM.out.mono ?_; rintro e w' ⟨rfl, rfl⟩)
  go_ret
  exact ⟨rfl, rfl⟩
def NormR (B g : Nat) (x : Int) (w : World) (e : Ending) (w' : World) : Prop :=
  ∃ neg v1 v2, e = .returned (.pointer (some ⟨g, 0, none⟩)) ∧ RatAt w' g neg v1 v2 ∧ N1 w' v1 x ∧ N1 w' v2 1 ∧ (∀ k, v1.ownBlock = some k → B ≤ k) ∧ (∀ k, v2.ownBlock = some k → B ≤ k) ∧ KeptB B g w w'
set_option maxRecDepth 100000 in
set_option maxHeartbeats 1000000 in
theorem norm_zero (B g : Nat) (neg : Bool) (v1 v2 : Value) (w : World) (hR : RatAt w g neg v1 v2) (h1 : N1 w v1 0) (h2 : N1 w v2 1) (o1 : ∀ k, v1.ownBlock = some k → B ≤ k ∧ k ≠ g) (o2 : ∀ k, v2.ownBlock = some k → B ≤ k ∧ k ≠ g) (hB : B ≤ w.heap.size) :
    Calls Tryz.prog 95 #[.pointer (some ⟨g, 0, none⟩)] w (NormR B g 0 w) := by
  obtain ⟨gb, cb, rfl, xb, zb, hcb⟩ := h2.cell1 (by decide)
  rcases h1.shape with ⟨_, A1, c1, rfl⟩ | ⟨h, _⟩
  · have r0 := hR.a.c0
    have r1 : w.cell? ⟨g, 1, none⟩ = some (.slice A1 0 c1) := hR.a.c1
    have r3 : w.cell? ⟨g, 3, none⟩ = some (.slice (some ⟨gb, 0, none⟩) 1 cb) := hR.b.c1
    have y0 := hR.a.z0
    have y3 : w.frozen? ⟨g, 3, none⟩ = false := hR.b.z1
    have hne : gb ≠ g := (o2 gb rfl).2
    have hne2 : ¬ g = gb := fun h => hne h.symm
    have hne3 : ¬ gb = g := hne
    have HW := Aside0.mk (fun W (u : Value) (h : W.cell? ⟨gb, 0, none⟩ = some u) (hz : W.frozen? ⟨gb, 0, none⟩ = false) => setWordRow gb cb hcb u W h hz)
    have HH := Aside0.mk (And.intro hR (And.intro o1 (And.intro o2 (And.intro hB (And.intro h2 (And.intro xb zb))))))
    clear hR h1 h2 o1 o2 hB hne
    go_enter_defers Tryz.func95, Tryz.ntmps95
    go_wp2_with (go_at_call 107; refine (HW.out _ (.int .u64 1) ((World.cell?_setCell_other _ _ _ _ (by simp [hne2])).trans HH.out.2.2.2.2.2.1) (by simp [HH.out.2.2.2.2.2.2])).mono ?_; rintro e w' ⟨rfl, rfl⟩)
    refine ⟨_, results_tmp rfl _ _ _, ?_⟩
    obtain ⟨hR, o1, o2, hB, h2, xb, zb⟩ := HH.out
    have gbl : gb < w.heap.size := World.block_lt_of_cell? w _ xb
    refine ⟨false, _, _, rfl, ⟨⟨?_, ?_, ?_, ?_, ?_⟩, ⟨?_, ?_, ?_, ?_, ?_⟩⟩, .zero A1 c1, .one gb cb 1 (by decide) (by decide) hcb ?_ ?_, fun k h => (o1 k h).1, fun k h => (o2 k h).1, ?_⟩
    · exact (World.cell?_setCell_other _ _ _ _ (by simp)).trans ((World.cell?_setCell_other _ _ _ _ (by simp [hne3])).trans (World.cell?_setCell_same _ _ _ hR.a.c0))
    · exact (World.cell?_setCell_other _ _ _ _ (by simp)).trans ((World.cell?_setCell_other _ _ _ _ (by simp [hne3])).trans ((World.cell?_setCell_other _ _ _ _ (by simp)).trans hR.a.c1))
    · simp [hR.a.z0]
    · simpa using hR.a.z1
    · exact ((hR.a.cs.set _ _ _).set _ _ _).set _ _ _
    · exact (World.cell?_setCell_other _ _ _ _ (by simp)).trans ((World.cell?_setCell_other _ _ _ _ (by simp [hne3])).trans ((World.cell?_setCell_other _ _ _ _ (by simp)).trans hR.b.c0))
    · exact World.cell?_setCell_same _ _ _ ((World.cell?_setCell_other _ _ _ _ (by simp [hne3])).trans ((World.cell?_setCell_other _ _ _ _ (by simp)).trans hR.b.c1))
    · simp [hR.b.z0]
    · simpa using hR.b.z1
    · exact ((hR.a.cs.set _ _ _).set _ _ _).set _ _ _
    · exact (World.cell?_setCell_other _ _ _ _ (by simp [hne2])).trans (World.cell?_setCell_same _ _ _ ((World.cell?_setCell_other _ _ _ _ (by simp [hne2])).trans xb))
    · simp [zb]
    · exact (((KeptB.refl B g w).set g 0 _ (.inl rfl)).set gb 0 _ (.inr (o2 gb rfl).1)).set g 3 _ (.inl rfl)
  · omega
/-- The comparison of two ones. -/
def CmR (w : World) (e : Ending) (w' : World) : Prop := e = .returned (.int .i64 0) ∧ ∃ n, w' = w.drewN n
set_option maxRecDepth 100000 in
set_option maxHeartbeats 1000000 in
theorem cmp_ones (a b : Nat) (va vb : Value) (w : World) (ha : IntAt w a 0 false va) (hb : IntAt w b 0 false vb) (h1 : N1 w va 1) (h2 : N1 w vb 1) (hne : a ≠ b) :
    Calls Tryz.prog 67 #[.pointer (some ⟨a, 0, none⟩), .pointer (some ⟨b, 0, none⟩)] w (CmR w) := by
  have heq := int_eql (o := 0) (o' := 0) hne w ha.cs hb.cs
  have a0 := ha.c0
  have a1 : w.cell? ⟨a, 1, none⟩ = some va := ha.c1
  have b0 := hb.c0
  have b1 : w.cell? ⟨b, 1, none⟩ = some vb := hb.c1
  have HC := Aside0.mk (fun W (hb : Below w.heap.size w W) => cmp1 va vb 1 1 W (h1.below hb) (h2.below hb))
  obtain ⟨Aa, na, ca, rfl⟩ := h1.sl
  obtain ⟨Ab, nb, cb, rfl⟩ := h2.sl
  have ho : ord3 1 1 = 0 := by decide
  rw [ho] at HC
  clear ha hb h1 h2 hne ho
  go_enter Tryz.func67, Tryz.ntmps67
  go_wp2
  go_quiet (fail)
  go_wp2
  go_quiet ((go_at_call 87; exact quiet_more (HC.out _ (below_drewN (Below.refl _ _) _))))
  go_wp2
  go_ret
  exact ⟨rfl, _, rfl⟩
def OneR (w : World) (e : Ending) (w' : World) : Prop := ∃ g v, e = .returned (.pointer (some ⟨g, 0, none⟩)) ∧ w.heap.size ≤ g ∧ IntAt w' g 0 false v ∧ N1 w' v 1 ∧ Below w.heap.size w w'
set_option maxRecDepth 100000 in
set_option maxHeartbeats 1000000 in
theorem intOne1 (w : World) : Calls Tryz.prog 164 #[] w (OneR w) := by
  have ho : ∀ W, Calls Tryz.prog 97 #[] W fun e w' => e = .returned (.slice (some ⟨W.heap.size, 0, none⟩) 1 1) ∧ W.alloc (.cells #[.int .u64 1] 132) = w' := by
    intro W
    go_enter Tryz.func97, Tryz.ntmps97
    go_wp2
    go_ret
    exact ⟨rfl, rfl⟩
  have HO := Aside0.mk ho
  clear ho
  go_enter Tryz.func164, Tryz.ntmps164
  go_wp2_with (go_at_call 97; refine (HO.out _).mono ?_; rintro e w' ⟨rfl, rfl⟩)
  go_ret
  have hI := IntAt.new (w.alloc (.cells #[.int .u64 1] 132)) false (.slice (some ⟨w.heap.size, 0, none⟩) 1 1)
  rw [World.size_alloc] at hI
  exact ⟨_, _, rfl, by omega, hI, (N1.fresh (w := w) (x := 1) (by decide) (by decide)).below (below_alloc (Below.refl _ _) _), below_alloc (below_alloc (Below.refl _ _) _) _⟩
set_option maxRecDepth 100000 in
set_option maxHeartbeats 1000000 in
theorem newInt0 (w : World) : Calls Tryz.prog 30 #[.int .i64 0] w fun e w' => e = .returned (.pointer (some ⟨w.heap.size, 0, none⟩)) ∧ w.alloc (.cells #[.bool false, .slice none 0 0] 121) = w' := by
  go_enter Tryz.func30, Tryz.ntmps30
  go_wp2
  go_ret
  exact ⟨rfl, rfl⟩
set_option maxRecDepth 100000 in
set_option maxHeartbeats 1000000 in
theorem getStack1 (w : World) : Calls Tryz.prog 102 #[] w fun e w' => e = .returned (.pointer (some ⟨w.heap.size, 0, none⟩)) ∧ w.alloc (.cells #[.pointer none] 206) = w' := by
  go_enter Tryz.func102, Tryz.ntmps102
  go_wp2
  go_ret
  exact ⟨rfl, rfl⟩
set_option maxRecDepth 100000 in
set_option maxHeartbeats 1000000 in
theorem free_deferred (b : Nat) (u : FrameMode) (w : World) (h : w.cell? ⟨b, 0, none⟩ = some (.pointer none)) : CallsD Tryz.prog 103 #[.pointer (some ⟨b, 0, none⟩)] u w fun e u' w' => u' = u ∧ (e = .returned (.tuple #[]) ∧ w = w') := by
  go_enter_d Tryz.func103, Tryz.ntmps103
  go_wp2
  go_end0
  exact ⟨rfl, rfl⟩
/-- The same end, no panic. -/
def NoPanic (Q : Exit → Act → World → Prop) : Exit → Act → World → Prop
  | .panic _, _, _ => False
  | e, a, w => Q e a w
theorem wp_nopanic {P : Program} {c : Code} {K : Act → World → Prop} {Q : Exit → Act → World → Prop} {a : Act} {w : World} (h : Code.wp P c (Exit.then K (NoPanic Q)) a w) : Code.wp P c (Exit.then K Q) a w := by
  refine Code.wp_mono ?_ h
  intro e a w h
  cases e with
  | normal => exact h
  | panic c => exact False.elim h
  | _ => exact h
theorem IntAt.flag {W : World} {b o : Nat} {neg : Bool} {v : Value} (h : IntAt W b o neg v) (n : Bool) : IntAt (W.setCell ⟨b, o, none⟩ (.bool n)) b o n v :=
  ⟨World.cell?_setCell_same _ _ _ h.c0, (World.cell?_setCell_other _ _ _ _ (by simp)).trans h.c1, by simp [h.z0], by simp [h.z1], h.cs.set _ _ _⟩
theorem IntAt.other {W : World} {b o : Nat} {neg : Bool} {v : Value} (h : IntAt W b o neg v) {b' i : Nat} {u : Value} (hi : b' ≠ b ∨ (i ≠ o ∧ i ≠ o + 1)) : IntAt (W.setCell ⟨b', i, none⟩ u) b o neg v := by
  have n0 : ∀ j, (b' ≠ b ∨ i ≠ j) → (⟨b', i, none⟩ : Addr) ≠ ⟨b, j, none⟩ := by
    rintro j hj h
    simp at h
    omega
  exact ⟨(World.cell?_setCell_other _ _ _ _ (n0 o (by omega))).trans h.c0, (World.cell?_setCell_other _ _ _ _ (n0 (o + 1) (by omega))).trans h.c1, by simp [h.z0], by simp [h.z1], h.cs.set _ _ _⟩
set_option maxRecDepth 100000 in
set_option maxHeartbeats 2000000 in
theorem norm_more (B g : Nat) (neg : Bool) (v1 v2 : Value) (x : Int) (w : World) (hR : RatAt w g neg v1 v2) (h1 : N1 w v1 x) (h2 : N1 w v2 1) (o1 : ∀ k, v1.ownBlock = some k → B ≤ k ∧ k ≠ g) (o2 : ∀ k, v2.ownBlock = some k → B ≤ k ∧ k ≠ g) (hB : B ≤ w.heap.size) (hx : 0 < x) :
    Calls Tryz.prog 95 #[.pointer (some ⟨g, 0, none⟩)] w (NormR B g x w) := by
  obtain ⟨ga, ca, rfl, xa, za, hca⟩ := h1.cell1 hx
  obtain ⟨gb, cb, rfl, xb, zb, hcb⟩ := h2.cell1 (by decide)
  have r0 := hR.a.c0
  have r1 : w.cell? ⟨g, 1, none⟩ = some (.slice (some ⟨ga, 0, none⟩) 1 ca) := hR.a.c1
  have r2 := hR.b.c0
  have r3 : w.cell? ⟨g, 3, none⟩ = some (.slice (some ⟨gb, 0, none⟩) 1 cb) := hR.b.c1
  have y0 := hR.a.z0
  have y2 := hR.b.z0
  have lg := hR.a.lt
  have HH := Aside0.mk (And.intro hR (And.intro h1 (And.intro h2 (And.intro o1 (And.intro o2 (And.intro hB hx))))))
  clear hR h1 h2 o1 o2 hB hx xa za xb zb hca hcb
  go_enter_defers Tryz.func95, Tryz.ntmps95
  go_wp2_with (go_at_call 102; refine (getStack1 _).mono ?_; rintro e w' ⟨rfl, rfl⟩)
  obtain ⟨hR, h1, h2, o1, o2, hB, hx⟩ := HH.out
  obtain ⟨W0, hW0, F⟩ : ∃ W0, W0 = ((w.setCell ⟨g, 0, none⟩ (.bool false)).setCell ⟨g, 2, none⟩ (.bool false)).alloc (.cells #[.pointer none] 206) ∧ Aside0 (Kept1 g w W0 ∧ W0.cell? ⟨w.heap.size, 0, none⟩ = some (.pointer none) ∧ IntAt W0 g 0 false (.slice (some ⟨ga, 0, none⟩) 1 ca) ∧ IntAt W0 g 2 false (.slice (some ⟨gb, 0, none⟩) 1 cb) ∧ w.heap.size < W0.heap.size) := by
    refine ⟨_, rfl, ⟨⟨(((Kept1.refl g w).set g 0 _ (.inl rfl)).set g 2 _ (.inl rfl)).alloc _, cn (by simp), ?_, ?_, by simp⟩⟩⟩
    · exact IntAt.below ((hR.a.flag false).other (by simp)) (below_alloc (Below.refl _ _) _) (by simpa using lg)
    · exact IntAt.below ((hR.b.other (by simp)).flag false) (below_alloc (Below.refl _ _) _) (by simpa using lg)
  rw [← hW0]
  clear hW0 hR h1 h2 o1 o2 hB hx
  have HL : Aside0 (∀ W, Below W0.heap.size W0 W → IntAt W W0.heap.size 0 false (.slice none 0 0) → Calls Tryz.prog 163 #[.pointer (some ⟨W0.heap.size, 0, none⟩), .pointer none, .pointer none, .pointer (some ⟨g, 0, none⟩), .pointer (some ⟨g, 2, none⟩)] W (LgR W W0.heap.size)) := by
    obtain ⟨hR, h1, h2, o1, o2, hB, hx⟩ := HH.out
    obtain ⟨k, c, ia, ib, hs⟩ := F.out
    refine ⟨fun W hW hI => ?_⟩
    have g0 : g < W0.heap.size := Nat.lt_trans lg hs
    exact lehmer1 W0.heap.size g _ _ x W hI (ia.below hW g0) (ib.below hW g0) ((h1.kept k fun j hj => (o1 j hj).2).below hW) ((h2.kept k fun j hj => (o2 j hj).2).below hW) hx (by omega)
  refine wp_nopanic ?_
  go_region_with (first
    | (go_at_call 30; refine (newInt0 _).mono ?_; rintro e w' ⟨rfl, rfl⟩)
    | (go_at_call 163; go_loud (refine (HL.out _ (below_drew (below_alloc (Below.refl _ _) _)) (IntAt.below (IntAt.new _ _ _) (below_drew (Below.refl _ _)) (Nat.lt_succ_self _))).mono ?_; rintro e w' ⟨v', rfl, hN, hI, hK⟩; have HF := Aside0.mk (show Below W0.heap.size W0 w' ∧ N1 w' v' 1 ∧ IntAt w' W0.heap.size 0 false v' from ⟨hK.new (below_drew (below_alloc (Below.refl _ _) _)) (by simp) (Nat.le_refl _), hN, hI⟩); clear hN hI hK)))
  have gl : g < W0.heap.size := Nat.lt_trans lg F.out.2.2.2.2
  go_wp2_with (first
    | (go_at_call 164; refine (intOne1 _).mono ?_; rintro e w2 ⟨b, v2, rfl, hb2, hI2, hN2, hB2⟩; have HG := Aside0.mk (show Below w'.heap.size w' w2 ∧ w'.heap.size ≤ b ∧ IntAt w2 b 0 false v2 ∧ N1 w2 v2 1 from ⟨hB2, hb2, hI2, hN2⟩); have hX := HF.out.1.trans (hB2.mono HF.out.1.size); have k0 := (hX.cell (p := ⟨g, 0, none⟩) gl).trans F.out.2.2.1.c0; have y0 := (hX.frozen (p := ⟨g, 0, none⟩) gl).trans F.out.2.2.1.z0; clear hb2 hI2 hN2 hB2; have HX := Aside0.mk hX; clear hX)
    | (go_at_call 67; refine (cmp_ones _ _ _ _ _ (HF.out.2.2.below HG.out.1 HF.out.2.2.lt) HG.out.2.2.1 (HF.out.2.1.below HG.out.1) HG.out.2.2.2 (Nat.ne_of_lt (Nat.lt_of_lt_of_le HF.out.2.2.lt HG.out.2.1))).mono ?_; rintro e w3 ⟨rfl, n, rfl⟩))
  obtain ⟨hR, h1, h2, o1, o2, hB, hx⟩ := HH.out
  obtain ⟨k, c, ia, ib, hs⟩ := F.out
  have hX := below_drewN HX.out n
  have hne : ¬ g = w.heap.size := by omega
  refine leaves_cons (f := 103) (args := #[.pointer (some ⟨w.heap.size, 0, none⟩)]) (by simp) (by simp [go_sem]) ?_
  refine (free_deferred _ .returning _ ?_).mono ?_
  · exact (World.cell?_setCell_other _ _ _ _ (by simp [hne])).trans ((hX.cell (p := ⟨w.heap.size, 0, none⟩) hs).trans c)
  rintro e u' w'' ⟨rfl, rfl, rfl⟩
  refine ⟨_, results_tmp rfl _ _ _, neg, _, _, rfl, ⟨(ia.below hX gl).flag neg, (ib.below hX gl).other (by simp)⟩, ?_, ?_, fun j hj => (o1 j hj).1, fun j hj => (o2 j hj).1, ?_⟩
  · exact ((h1.kept k fun j hj => (o1 j hj).2).below hX).kept ((Kept1.refl g _).set g 0 _ (.inl rfl)) fun j hj => (o1 j hj).2
  · exact ((h2.kept k fun j hj => (o2 j hj).2).below hX).kept ((Kept1.refl g _).set g 0 _ (.inl rfl)) fun j hj => (o2 j hj).2
  · exact ((k.toB hB).below (by omega) hX).set g 0 _ (.inl rfl)
end Go.Proofs.YtbcgeeaboecmgaaGreatDoor

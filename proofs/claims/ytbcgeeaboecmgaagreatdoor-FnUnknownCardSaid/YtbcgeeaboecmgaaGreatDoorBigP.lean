/- math/big's Rat.Add, one word over 1 and zero. -/
import Derived.Test.YtbcgeeaboecmgaaGreatDoorBigN
namespace Go.Proofs.YtbcgeeaboecmgaaGreatDoor
open Go Go.RowKit Go.Proofs.YtbcgeeaboecmgaaGreatDoorW.PrintWords
set_option linter.unusedVariables false
set_option linter.unusedSimpArgs false

theorem N1.nonneg {W : World} {v : Value} {x : Int} (h : N1 W v x) : 0 ≤ x := by
  rcases h.shape with ⟨h, _⟩ | ⟨h, _⟩ <;> omega
/-- The sums in reach: one side is zero. -/
def Sums (x y r : Int) : Prop := (y = 0 ∧ r = x) ∨ (x = 0 ∧ 0 < y ∧ r = y)
theorem int_add2 (zb zo xb yb : Nat) (vx vy : Value) (x y r : Int) (hs : Sums x y r) (nx ny neg0 : Bool) (w : World) (hz : IntAt w zb zo neg0 (.slice none 0 0)) (hx : IntAt w xb 0 nx vx) (hy : IntAt w yb 0 ny vy) (hvx : N1 w vx x) (hvy : N1 w vy y) (hzx : xb ≠ zb) (hzy : yb ≠ zb) :
    Calls Tryz.prog 29 #[.pointer (some ⟨zb, zo, none⟩), .pointer (some ⟨xb, 0, none⟩), .pointer (some ⟨yb, 0, none⟩)] w (AddI w zb zo r) := by
  rcases hs with ⟨rfl, rfl⟩ | ⟨rfl, h0, rfl⟩
  · exact int_addr zb zo xb yb vx vy _ nx ny neg0 w hz hx hy hvx hvy hzx hzy
  · exact int_addl zb zo xb yb vx vy _ nx ny neg0 w hz hx hy hvx hvy h0 hzx hzy
theorem norm_any (B g : Nat) (neg : Bool) (v1 v2 : Value) (x : Int) (w : World) (hR : RatAt w g neg v1 v2) (h1 : N1 w v1 x) (h2 : N1 w v2 1) (o1 : ∀ k, v1.ownBlock = some k → B ≤ k ∧ k ≠ g) (o2 : ∀ k, v2.ownBlock = some k → B ≤ k ∧ k ≠ g) (hB : B ≤ w.heap.size) :
    Calls Tryz.prog 95 #[.pointer (some ⟨g, 0, none⟩)] w (NormR B g x w) := by
  rcases h1.shape with ⟨rfl, _⟩ | ⟨h, _⟩
  · exact norm_zero B g neg v1 v2 w hR h1 h2 o1 o2 hB
  · exact norm_more B g neg v1 v2 x w hR h1 h2 o1 o2 hB h
theorem N1.ne_int {W : World} {v u : Value} {x : Int} {g k : Nat} {neg : Bool} (h : N1 W v x) (hI : IntAt W g 0 neg u) (hk : v.ownBlock = some k) (h0 : 0 < x) : k ≠ g := by
  obtain ⟨g', c, rfl, hc, hz, hcb⟩ := h.cell1 h0
  rintro rfl
  have : g' = k := by simpa [Value.ownBlock] using hk
  subst this
  rw [hI.c0] at hc
  simp at hc
/-- Behind the stack and the two numbers. -/
structure Ad0 (w W : World) : Prop where
  k : Below w.heap.size w W
  s : W.cell? ⟨w.heap.size, 0, none⟩ = some (.pointer none)
  lt : w.heap.size + 2 < W.heap.size
theorem Ad0.below {w W W' : World} (h : Ad0 w W) (hb : Below W.heap.size W W') : Ad0 w W' :=
  have hl : w.heap.size < W.heap.size := by have := h.lt; omega
  ⟨h.k.trans (hb.mono h.k.size), (hb.cell (p := ⟨w.heap.size, 0, none⟩) hl).trans h.s, Nat.lt_of_lt_of_le h.lt hb.size⟩
theorem Ad0.kept {w W W' : World} {g : Nat} (h : Ad0 w W) (hb : Kept1 g W W') (hg : w.heap.size < g) : Ad0 w W' :=
  ⟨hb.new h.k h.k.size (Nat.le_of_lt hg), (hb.cell (Nat.lt_of_le_of_lt (by omega) h.lt) (by omega)).trans h.s, Nat.lt_of_lt_of_le h.lt hb.size⟩
set_option maxRecDepth 100000 in
set_option maxHeartbeats 2000000 in
theorem rat_add (g a b : Nat) (nx ny : Bool) (vx wx vy wy : Value) (x y r : Int) (hs : Sums x y r) (w : World) (hG : RatAt w g false (.slice none 0 0) (.slice none 0 0)) (hA : RatAt w a nx vx wx) (hB : RatAt w b ny vy wy)
    (h1 : N1 w vx x) (h2 : N1 w wx 1) (h3 : N1 w vy y) (h4 : N1 w wy 1) (hag : a ≠ g) (hbg : b ≠ g) :
    Calls Tryz.prog 44 #[.pointer (some ⟨g, 0, none⟩), .pointer (some ⟨a, 0, none⟩), .pointer (some ⟨b, 0, none⟩)] w (RatR g r w) := by
  have lg := hG.a.lt
  have la := hA.a.lt
  have lb := hB.a.lt
  have HH := Aside0.mk (And.intro hG (And.intro hA (And.intro hB (And.intro h1 (And.intro h2 (And.intro h3 (And.intro h4 (And.intro hag (And.intro hbg hs)))))))))
  clear hs hG hA hB h1 h2 h3 h4 hag hbg
  go_enter_defers Tryz.func44, Tryz.ntmps44
  go_wp2_with (go_at_call 102; refine (getStack1 _).mono ?_; rintro e w' ⟨rfl, rfl⟩)
  obtain ⟨W0, hW0, F⟩ : ∃ W0, W0 = ((w.alloc (.cells #[.pointer none] 206)).alloc (.cells #[.bool false, .slice none 0 0] 121)).alloc (.cells #[.bool false, .slice none 0 0] 121) ∧ Aside0 (Ad0 w W0 ∧ IntAt W0 (w.heap.size + 1) 0 false (.slice none 0 0) ∧ IntAt W0 (w.heap.size + 1 + 1) 0 false (.slice none 0 0)) := by
    refine ⟨_, rfl, ⟨⟨⟨below_alloc (below_alloc (below_alloc (Below.refl _ _) _) _) _, (ca (by simp; omega)).trans ((ca (by simp)).trans (cn rfl)), by simp⟩, ?_, ?_⟩⟩⟩
    · have := IntAt.new (w.alloc (.cells #[.pointer none] 206)) false (.slice none 0 0)
      rw [World.size_alloc] at this
      exact this.below (below_alloc (Below.refl _ _) _) (by simp)
    · have := IntAt.new ((w.alloc (.cells #[.pointer none] 206)).alloc (.cells #[.bool false, .slice none 0 0] 121)) false (.slice none 0 0)
      rw [World.size_alloc, World.size_alloc] at this
      exact this
  rw [← hW0]
  clear hW0
  have q1 : W0.cell? ⟨b, 3, none⟩ = some wy := (F.out.1.k.cell (p := ⟨b, 3, none⟩) lb).trans HH.out.2.2.1.b.c1
  obtain ⟨Aw, cw, rfl⟩ := HH.out.2.2.2.2.2.2.1.form (by decide)
  have H1 : Aside0 (∀ W, Below W0.heap.size W0 W → Calls Tryz.prog 104 #[.pointer (some ⟨w.heap.size + 1, 0, none⟩), .pointer (some ⟨w.heap.size, 0, none⟩), .pointer (some ⟨a, 0, none⟩), .slice Aw 1 cw] W (ScR W (w.heap.size + 1) nx x)) := by
    obtain ⟨hG, hA, hB, h1, h2, h3, h4, hag, hbg, hs⟩ := HH.out
    obtain ⟨f, i1, i2⟩ := F.out
    refine ⟨fun W hW => ?_⟩
    have hk := f.k.trans (hW.mono f.k.size)
    exact scaleDenom1 _ a _ _ vx x nx false W (i1.below hW (Nat.lt_of_lt_of_le (by omega) f.lt)) (hA.a.below hk la) (h1.below hk) (h4.below hk) (by omega)
  refine wp_nopanic ?_
  go_region_with (go_at_call 104; refine (H1.out _ (below_drew (Below.refl _ _))).mono ?_; rintro e W1 ⟨rfl, v1, -, hN, hI, hK, ho, -, -⟩; have G1 := Aside0.mk (show Kept1 (w.heap.size + 1) W0 W1 ∧ N1 W1 v1 x ∧ IntAt W1 (w.heap.size + 1) 0 nx v1 ∧ (∀ k, v1.ownBlock = some k → W0.heap.size ≤ k) from ⟨((Kept1.refl _ _).drew).trans hK, hN, hI, ho⟩); clear hN hI hK ho)
  have F1 : Aside0 (Ad0 w W1 ∧ IntAt W1 (w.heap.size + 1) 0 nx v1 ∧ IntAt W1 (w.heap.size + 1 + 1) 0 false (.slice none 0 0) ∧ N1 W1 v1 x ∧ (∀ k, v1.ownBlock = some k → W0.heap.size ≤ k)) := by
    obtain ⟨f, i1, i2⟩ := F.out
    obtain ⟨k, n, i, o⟩ := G1.out
    exact ⟨f.kept k (by omega), i, i2.kept k (by omega), n, o⟩
  clear q1
  have q1 : W1.cell? ⟨a, 3, none⟩ = some wx := (F1.out.1.k.cell (p := ⟨a, 3, none⟩) la).trans HH.out.2.1.b.c1
  obtain ⟨Ax, cx, rfl⟩ := HH.out.2.2.2.2.1.form (by decide)
  have H2 : Aside0 (∀ W, Below W1.heap.size W1 W → Calls Tryz.prog 104 #[.pointer (some ⟨w.heap.size + 1 + 1, 0, none⟩), .pointer (some ⟨w.heap.size, 0, none⟩), .pointer (some ⟨b, 0, none⟩), .slice Ax 1 cx] W (ScR W (w.heap.size + 1 + 1) ny y)) := by
    obtain ⟨hG, hA, hB, h1, h2, h3, h4, hag, hbg, hs⟩ := HH.out
    obtain ⟨f, i1, i2, n1, o1⟩ := F1.out
    refine ⟨fun W hW => ?_⟩
    have hk := f.k.trans (hW.mono f.k.size)
    exact scaleDenom1 _ b _ _ vy y ny false W (i2.below hW f.lt) (hB.a.below hk lb) (h3.below hk) (h2.below hk) (by omega)
  go_wp2
  refine wp_nopanic ?_
  go_region_with (go_at_call 104; refine (H2.out _ (below_drew (Below.refl _ _))).mono ?_; rintro e W2 ⟨rfl, v2, -, hN, hI, hK, ho, -, -⟩; have G2 := Aside0.mk (show Kept1 (w.heap.size + 1 + 1) W1 W2 ∧ N1 W2 v2 y ∧ IntAt W2 (w.heap.size + 1 + 1) 0 ny v2 ∧ (∀ k, v2.ownBlock = some k → W1.heap.size ≤ k) from ⟨((Kept1.refl _ _).drew).trans hK, hN, hI, ho⟩); clear hN hI hK ho)
  have F2 : Aside0 (Ad0 w W2 ∧ IntAt W2 (w.heap.size + 1) 0 nx v1 ∧ IntAt W2 (w.heap.size + 1 + 1) 0 ny v2 ∧ N1 W2 v1 x ∧ N1 W2 v2 y) := by
    obtain ⟨f0, -, -⟩ := F.out
    obtain ⟨f, i1, i2, n1, o1⟩ := F1.out
    obtain ⟨k, n, i, o⟩ := G2.out
    have := f0.lt
    exact ⟨f.kept k (by omega), i1.kept k (by omega), i, n1.kept k (fun j hj => by have := o1 j hj; omega), n⟩
  clear q1
  have H3 : Aside0 (∀ W, Below W2.heap.size W2 W → Calls Tryz.prog 29 #[.pointer (some ⟨g, 0, none⟩), .pointer (some ⟨w.heap.size + 1, 0, none⟩), .pointer (some ⟨w.heap.size + 1 + 1, 0, none⟩)] W (AddI W g 0 r)) := by
    obtain ⟨hG, hA, hB, h1, h2, h3, h4, hag, hbg, hs⟩ := HH.out
    obtain ⟨f, i1, i2, n1, n2⟩ := F2.out
    refine ⟨fun W hW => ?_⟩
    have hk := f.k.trans (hW.mono f.k.size)
    have := f.lt
    exact int_add2 g 0 _ _ v1 v2 x y r hs nx ny false W (hG.a.below hk lg) (i1.below hW (by omega)) (i2.below hW (by omega)) (n1.below hW) (n2.below hW) (by omega) (by omega)
  go_wp2_with fail
  refine (H3.out _ (Below.refl _ _)).mono ?_
  rintro e W3 ⟨neg, v3, rfl, hN, hI, hK, ho, hc, hz⟩
  have F3 : Aside0 (Kept1 g W2 W3 ∧ RatAt W3 g neg v3 (.slice none 0 0) ∧ N1 W3 v3 r ∧ (∀ k, v3.ownBlock = some k → W2.heap.size ≤ k) ∧ RatAt W3 a nx vx (.slice Ax 1 cx) ∧ RatAt W3 b ny vy (.slice Aw 1 cw) ∧ N1 W3 (.slice Ax 1 cx) 1 ∧ N1 W3 (.slice Aw 1 cw) 1) := by
    obtain ⟨hG, hA, hB, h1, h2, h3, h4, hag, hbg, hs⟩ := HH.out
    obtain ⟨f, i1, i2, n1, n2⟩ := F2.out
    have hG2 := hG.below f.k lg
    refine ⟨hK, ⟨hI, ⟨(hc 2 (by decide) (by decide)).trans hG2.b.c0, (hc 3 (by decide) (by decide)).trans hG2.b.c1, (hz 2).trans hG2.b.z0, (hz 3).trans hG2.b.z1, hI.cs⟩⟩, hN, ho, (hA.below f.k la).kept hK hag, (hB.below f.k lb).kept hK hbg, (h2.below f.k).kept hK fun k hk => (h2.ne_int hG.a hk (by decide)), (h4.below f.k).kept hK fun k hk => (h4.ne_int hG.a hk (by decide))⟩
  clear hN hI hK ho hc hz
  have q0 : W3.cell? ⟨g, 3, none⟩ = some (.slice none 0 0) := F3.out.2.1.b.c1
  have q1 : W3.cell? ⟨a, 3, none⟩ = some (.slice Ax 1 cx) := F3.out.2.2.2.2.1.b.c1
  have q2 : W3.cell? ⟨b, 3, none⟩ = some (.slice Aw 1 cw) := F3.out.2.2.2.2.2.1.b.c1
  have lg3 : g < W3.heap.size := F3.out.2.1.a.lt
  have H4 : Aside0 (∀ W, Below W3.heap.size W3 W → Calls Tryz.prog 105 #[.pointer (some ⟨w.heap.size, 0, none⟩), .slice none 0 0, .slice Ax 1 cx, .slice Aw 1 cw] W (NR 1 W)) := by
    obtain ⟨-, -, -, -, -, -, m1, m2⟩ := F3.out
    exact ⟨fun W hW => mulDenom1 _ _ _ W (m1.below hW) (m2.below hW)⟩
  go_wp2
  refine wp_nopanic ?_
  go_region_with (go_at_call 105; refine (H4.out _ (below_drew (Below.refl _ _))).mono ?_; rintro e W4 ⟨v4, rfl, hN, ho, hb⟩; obtain ⟨A4, c4, rfl⟩ := hN.form (by decide); have G4 := Aside0.mk (show Below W3.heap.size W3 W4 ∧ N1 W4 (.slice A4 1 c4) 1 ∧ (∀ k, (Value.slice A4 1 c4).ownBlock = some k → W3.heap.size ≤ k) from ⟨(below_drew (Below.refl _ _)).trans hb, hN, fun k h => (ho k h).1⟩); clear hN ho hb; have x3 := (G4.out.1.cell (p := ⟨g, 3, none⟩) lg3).trans q0; have y3 := (G4.out.1.frozen (p := ⟨g, 3, none⟩) lg3).trans F3.out.2.1.b.z1)
  all_goals
    go_wp2_with fail
    have hE : Aside0 (∀ (fn : Func) (tmps : Array Value) (w' : World), NormR W2.heap.size g r (W4.setCell ⟨g, 3, none⟩ (.slice A4 1 c4)) (.returned (.pointer (some ⟨g, 0, none⟩))) w' → w'.cell? ⟨w.heap.size, 0, none⟩ = some (.pointer none) ∧ RatR g r w (.returned (.pointer (some ⟨g, 0, none⟩))) w') := by
      obtain ⟨f, i1, i2, n1, n2⟩ := F2.out
      obtain ⟨k3, -, -, -, -, -, -, -⟩ := F3.out
      obtain ⟨b4, -, -⟩ := G4.out
      have hlt := f.lt
      have K5 : KeptB W2.heap.size g W2 (W4.setCell ⟨g, 3, none⟩ (.slice A4 1 c4)) := ((k3.toB (Nat.le_refl _)).below k3.size b4).set g 3 _ (.inl rfl)
      refine ⟨fun fn tmps w' ⟨neg', u1, u2, h0, hR, m1, m2, p1, p2, kk⟩ => ?_⟩
      have KK := K5.trans kk
      refine ⟨(World.cell?_of_block (w := W2) (KK.block w.heap.size (by omega) (by omega))).trans f.s, neg', u1, u2, rfl, hR, m1, m2, fun k h => Nat.le_trans (by omega) (p1 k h), fun k h => Nat.le_trans (by omega) (p2 k h), ?_⟩
      exact ⟨KK.os.trans f.k.os, KK.tape.trans f.k.tape, KK.output.trans f.k.output, Nat.le_trans f.k.size KK.size, fun k hk hg => (KK.block k (by omega) hg).trans (f.k.block k hk)⟩
    have hN : Aside0 (Calls Tryz.prog 95 #[.pointer (some ⟨g, 0, none⟩)] (W4.setCell ⟨g, 3, none⟩ (.slice A4 1 c4)) (NormR W2.heap.size g r (W4.setCell ⟨g, 3, none⟩ (.slice A4 1 c4)))) := by
      obtain ⟨f, i1, i2, n1, n2⟩ := F2.out
      obtain ⟨k3, r3, n3, o3, -, -, -, -⟩ := F3.out
      obtain ⟨b4, n4, o4⟩ := G4.out
      have hlt := f.lt
      have g2 : g < W2.heap.size := by omega
      have hs2 := k3.size
      refine ⟨norm_any W2.heap.size g neg v3 _ r _ ⟨(r3.a.below b4 lg3).other (by simp), ?_⟩ ?_ ?_ (fun k hk => ⟨o3 k hk, by have := o3 k hk; omega⟩) (fun k hk => by have := o4 k hk; omega) (by simp only [World.size_setCell]; exact Nat.le_trans hs2 b4.size)⟩
      · have hb := r3.b.below b4 lg3
        exact ⟨(World.cell?_setCell_other _ _ _ _ (by simp)).trans hb.c0, World.cell?_setCell_same _ _ _ hb.c1, by simp [hb.z0], by simpa using hb.z1, hb.cs.set _ _ _⟩
      · exact (n3.below b4).kept ((Kept1.refl g _).set g 3 _ (.inl rfl)) fun k hk => by have := o3 k hk; omega
      · exact n4.kept ((Kept1.refl g _).set g 3 _ (.inl rfl)) fun k hk => by have := o4 k hk; omega
    refine hN.out.mono ?_
    rintro e w' ⟨neg', u1, u2, rfl, hR⟩
    obtain ⟨hc, hF⟩ := hE.out default #[] w' ⟨neg', u1, u2, rfl, hR⟩
    have HF := Aside0.mk hF
    clear hF hR
    go_wp2
    refine leaves_cons (f := 103) (args := #[.pointer (some ⟨w.heap.size, 0, none⟩)]) (by simp) (by simp [go_sem]) ?_
    refine (free_deferred _ .returning _ hc).mono ?_
    rintro e u' w'' ⟨rfl, rfl, rfl⟩
    obtain ⟨n', a', b', h0, rest⟩ := HF.out
    exact ⟨_, results_tmp rfl _ _ _, n', a', b', rfl, rest⟩
end Go.Proofs.YtbcgeeaboecmgaaGreatDoor

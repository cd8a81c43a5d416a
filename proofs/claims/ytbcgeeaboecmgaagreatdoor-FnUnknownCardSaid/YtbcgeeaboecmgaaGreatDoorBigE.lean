/- math/big's lehmerGCD at one word over 1, Cmp, norm. -/
import Derived.Test.YtbcgeeaboecmgaaGreatDoorBigB
namespace Go.Proofs.YtbcgeeaboecmgaaGreatDoor
open Go Go.RowKit Go.Proofs.YtbcgeeaboecmgaaGreatDoorW.PrintWords
set_option linter.unusedVariables false
set_option linter.unusedSimpArgs false

theorem N1.cell1 {W : World} {v : Value} {x : Int} (h : N1 W v x) (h0 : 0 < x) : ∃ g c, v = .slice (some ⟨g, 0, none⟩) 1 c ∧ W.cell? ⟨g, 0, none⟩ = some (.int .u64 x) ∧ W.frozen? ⟨g, 0, none⟩ = false ∧ 1 ≤ c := by
  cases h with
  | zero A c => omega
  | one g c x _ _ hc hx hz => exact ⟨g, c, rfl, hx, hz, hc⟩
theorem abs_end {w w1 : World} {zb : Nat} {neg : Bool} {x : Int} {v1 : Value} (hN : N1 w1 v1 x) (hI : IntAt w1 zb 0 neg v1) (hK : Kept1 zb w w1) (ho : ∀ k, v1.ownBlock = some k → w.heap.size ≤ k)
    (hc : ∀ i, i ≠ 0 → i ≠ 0 + 1 → w1.cell? ⟨zb, i, none⟩ = w.cell? ⟨zb, i, none⟩) (hf : ∀ i, w1.frozen? ⟨zb, i, none⟩ = w.frozen? ⟨zb, i, none⟩) (hl : zb < w.heap.size) :
    SetR w zb 0 false x (.returned (.pointer (some ⟨zb, 0, none⟩))) (w1.setCell ⟨zb, 0, none⟩ (.bool false)) := by
  have hk := (Kept1.refl zb w1).set zb 0 (.bool false) (.inl rfl)
  refine ⟨v1, rfl, hN.kept hk (fun k h => by have := ho k h; omega), ⟨World.cell?_setCell_same _ _ _ hI.c0, (World.cell?_setCell_other _ _ _ _ (by simp)).trans hI.c1, by simp [hI.z0], (by simpa using hI.z1), hI.cs.set _ _ _⟩, hK.trans hk, ho, ?_, ?_⟩
  · intro i h0 h1
    exact (World.cell?_setCell_other _ _ _ _ (by simp [h0])).trans (hc i h0 h1)
  · intro i
    simpa using hf i
set_option maxRecDepth 100000 in
set_option maxHeartbeats 1000000 in
theorem int_abs (zb xb xo : Nat) (v : Value) (x : Int) (neg : Bool) (w : World) (hz : IntAt w zb 0 false (.slice none 0 0)) (hx : IntAt w xb xo neg v) (hv : N1 w v x) (hne : zb ≠ xb) :
    Calls Tryz.prog 207 #[.pointer (some ⟨zb, 0, none⟩), .pointer (some ⟨xb, xo, none⟩)] w (SetR w zb 0 false x) := by
  have HS := Aside0.mk (int_set zb 0 xb xo v x neg false w hne hz hx hv)
  have HLT := Aside0.mk hz.lt
  clear hz hx hv hne
  go_enter Tryz.func207, Tryz.ntmps207
  go_wp2_with fail
  refine HS.out.mono ?_
  rintro e w1 ⟨v1, rfl, hN, hI, hK, ho, hc, hf⟩
  have i0 := hI.c0
  have i1 := hI.z0
  have HF := Aside0.mk (And.intro hN (And.intro hI (And.intro hK (And.intro ho (And.intro hc hf)))))
  clear hN hI hK ho hc hf
  go_wp2
  go_ret
  obtain ⟨hN, hI, hK, ho, hc, hf⟩ := HF.out
  exact abs_end hN hI hK ho hc hf HLT.out
def LgL (x : Int) (W0 : World) (p q : Value) (wr : World) : Prop := ((p = .int .u64 x ∧ q = .int .u64 1) ∨ (p = .int .u64 1 ∧ q = .int .u64 0)) ∧ ∃ n, wr = W0.drewN n
/-- What the greatest common divisor leaves: 1. -/
def LgR (w : World) (zb : Nat) (e : Ending) (w' : World) : Prop := ∃ v', e = .returned (.pointer (some ⟨zb, 0, none⟩)) ∧ N1 w' v' 1 ∧ IntAt w' zb 0 false v' ∧ Kept1 zb w w'
set_option maxRecDepth 100000 in
set_option maxHeartbeats 4000000 in
theorem lehmer1 (zb g : Nat) (v1 v2 : Value) (x : Int) (w : World) (hz : IntAt w zb 0 false (.slice none 0 0)) (ha : IntAt w g 0 false v1) (hb : IntAt w g 2 false v2) (h1 : N1 w v1 x) (h2 : N1 w v2 1) (hx : 0 < x) (hne : g ≠ zb) :
    Calls Tryz.prog 163 #[.pointer (some ⟨zb, 0, none⟩), .pointer none, .pointer none, .pointer (some ⟨g, 0, none⟩), .pointer (some ⟨g, 2, none⟩)] w (LgR w zb) := by
  have lz := hz.lt
  have lg := ha.lt
  have HH := Aside0.mk (And.intro hz (And.intro ha (And.intro hb (And.intro h1 (And.intro h2 (And.intro hx hne))))))
  clear hz ha hb h1 h2 hx hne
  go_enter Tryz.func163, Tryz.ntmps163
  go_wp2_with fail
  have hA := IntAt.new w false (.slice none 0 0)
  have hbA := below_alloc (Below.refl w.heap.size w) (.cells #[.bool false, .slice none 0 0] 121)
  refine (int_abs w.heap.size g 0 v1 x false _ hA (HH.out.2.1.below hbA lg) (HH.out.2.2.2.1.below hbA) (by omega)).mono ?_
  rintro e w1 ⟨va, rfl, hNa, hIa, hKa, hoa, _, _⟩
  have hb1 : Below w.heap.size w w1 := hKa.new hbA (by simp) (Nat.le_refl _)
  have z1 : w.heap.size + 1 ≤ w1.heap.size := by have := hKa.size; simpa using this
  simp only [World.size_alloc] at hoa
  have HA := Aside0.mk (show Below w.heap.size w w1 ∧ N1 w1 va x ∧ IntAt w1 w.heap.size 0 false va ∧ (∀ k, va.ownBlock = some k → w.heap.size + 1 ≤ k) from ⟨hb1, hNa, hIa, hoa⟩)
  clear hA hbA hNa hIa hKa hoa hb1
  go_wp2_with fail
  have hB := IntAt.new w1 false (.slice none 0 0)
  have hbB := below_alloc (Below.refl w1.heap.size w1) (.cells #[.bool false, .slice none 0 0] 121)
  have hb2 := HA.out.1.trans (hbB.mono HA.out.1.size)
  refine (int_abs w1.heap.size g 2 v2 1 false _ hB (HH.out.2.2.1.below hb2 lg) (HH.out.2.2.2.2.1.below hb2) (by omega)).mono ?_
  rintro e w2 ⟨vb, rfl, hNb, hIb, hKb, hob, _, _⟩
  have hb3 : Below w1.heap.size w1 w2 := hKb.new hbB (by simp) (Nat.le_refl _)
  have z2 : w1.heap.size + 1 ≤ w2.heap.size := by have := hKb.size; simpa using this
  have hIa2 := HA.out.2.2.1.below hb3 (by omega)
  have hNa2 := HA.out.2.1.below hb3
  have hIb2 := hIb
  obtain ⟨ga, ca, rfl, xa, za, hca⟩ := hNa2.cell1 HH.out.2.2.2.2.2.1
  obtain ⟨gb, cb, rfl, xb, zb', hcb⟩ := hNb.cell1 (by decide)
  have a1 : w2.cell? ⟨w.heap.size, 1, none⟩ = some (.slice (some ⟨ga, 0, none⟩) 1 ca) := hIa2.c1
  have b1 : w2.cell? ⟨w1.heap.size, 1, none⟩ = some (.slice (some ⟨gb, 0, none⟩) 1 cb) := hIb.c1
  have a0 : w2.cell? ⟨w.heap.size, 0, none⟩ = some (.bool false) := hIa2.c0
  have g0 : w2.cell? ⟨g, 0, none⟩ = some (.bool false) := (HH.out.2.1.below (HA.out.1.trans (hb3.mono (by omega))) lg).c0
  have HC := Aside0.mk (fun W (hb : Below w2.heap.size w2 W) => cmp1 _ _ x 1 W (hNa2.below hb) (hNb.below hb))
  have hlt : decide (ord3 x 1 < 0) = false := by have := HH.out.2.2.2.2.2.1; unfold ord3; simp; split <;> (try split) <;> omega
  have hga : ga < w2.heap.size := World.block_lt_of_cell? w2 _ xa
  have hgb : gb < w2.heap.size := World.block_lt_of_cell? w2 _ xb
  have lA : w.heap.size < w2.heap.size := by omega
  have lB : w1.heap.size < w2.heap.size := by omega
  have lz2 : zb < w2.heap.size := by have := HA.out.1.size; omega
  have lg2 : g < w2.heap.size := by have := HA.out.1.size; omega
  have hoa2 : w.heap.size + 1 ≤ ga := HA.out.2.2.2 ga rfl
  have hob2 : w1.heap.size + 1 ≤ gb := by have := hob gb rfl; simpa using this
  have HF := Aside0.mk (show Below w.heap.size w w2 ∧ IntAt w2 w.heap.size 0 false (.slice (some ⟨ga, 0, none⟩) 1 ca) ∧ IntAt w2 zb 0 false (.slice none 0 0) from ⟨HA.out.1.trans (hb3.mono HA.out.1.size), hIa2, HH.out.1.below (HA.out.1.trans (hb3.mono HA.out.1.size)) lz⟩)
  clear hB hbB hb2 hNb hIb hKb hob hb3 hIa2 hNa2 hIb2
  go_wp2
  go_quiet ((go_at_call 87; exact Calls.quiet_of ((HC.out _ (below_drewN (below_alloc (below_alloc (Below.refl _ _) _) _) _)).mono fun e w1 h => ⟨h.1, h.2.out⟩)))
  go_wp2
  go_loop [11, 12] (fun a b => a = .pointer (some ⟨w.heap.size, 0, none⟩) ∧ b = .pointer (some ⟨w1.heap.size, 0, none⟩)) (fun _ _ => 0)
  case atStart => exact ⟨rfl, rfl⟩
  case round =>
    obtain ⟨rfl, rfl⟩ := hrel
    go_wp2
    go_quiet (fail)
    go_wp2
    go_loopw [23, 24] (fun p q wr => LgL x ((w2.alloc (.cells #[.bool false, .slice none 0 0] 121)).alloc (.cells #[.bool false, .slice none 0 0] 121)) p q wr) (fun _ q _ => (intOf q).toNat)
    case atStart => exact ⟨.inl ⟨rfl, rfl⟩, _, World.drewN_drewN _ _ _⟩
    case round =>
      obtain ⟨hpq, n, rfl⟩ := hrel
      rcases hpq with ⟨rfl, rfl⟩ | ⟨rfl, rfl⟩
      · have hm : Int.tmod x 1 = 0 := by simp
        go_wp2
        go_quiet (fail)
        go_wp2
        exact ⟨⟨.inr ⟨rfl, rfl⟩, _, World.drewN_drewN _ _ _⟩, by decide⟩
      · go_wp2_with fail
        have hb5 : Below w2.heap.size w2 (((w2.alloc (.cells #[.bool false, .slice none 0 0] 121)).alloc (.cells #[.bool false, .slice none 0 0] 121)).drewN n) := below_drewN (below_alloc (below_alloc (Below.refl _ _) _) _) _
        have hk5 := (Kept1.refl ga (((w2.alloc (.cells #[.bool false, .slice none 0 0] 121)).alloc (.cells #[.bool false, .slice none 0 0] 121)).drewN n)).set ga 0 (.int .u64 1) (.inl rfl)
        refine (int_set zb 0 w.heap.size 0 (.slice (some ⟨ga, 0, none⟩) 1 ca) 1 false false _ (by omega) ((HF.out.2.2.below hb5 lz2).kept hk5 (by omega)) ((HF.out.2.1.below hb5 lA).kept hk5 (by omega))
          (.one ga ca 1 (by decide) (by decide) hca (World.cell?_setCell_same _ _ _ ((hb5.cell (p := ⟨ga, 0, none⟩) hga).trans xa)) (by simp only [World.frozen?_setCell]; exact (hb5.frozen (p := ⟨ga, 0, none⟩) hga).trans za))).mono ?_
        rintro e w6 ⟨v', rfl, hN, hI, hK, _, _, _⟩
        have H6 := Aside0.mk (show N1 w6 v' 1 ∧ IntAt w6 zb 0 false v' ∧ Kept1 zb w w6 from ⟨hN, hI, ((((Kept1.refl zb w).below (Nat.le_refl _) HF.out.1).below (by omega) hb5).set ga 0 _ (.inr (by omega))).trans hK⟩)
        clear hN hI hK hb5 hk5
        go_wp2
        go_ret
        exact ⟨v', rfl, H6.out⟩
end Go.Proofs.YtbcgeeaboecmgaaGreatDoor

/- impl.of, math/big's Rat at one word: SetInt, SetInt64 of 0, Denom, impl.over, makeRat. -/
import Derived.Test.YtbcgeeaboecmgaaGreatDoorBigI
namespace Go.Proofs.YtbcgeeaboecmgaaGreatDoor
open Go Go.RowKit Go.Proofs.YtbcgeeaboecmgaaGreatDoorW.PrintWords
set_option linter.unusedVariables false
set_option linter.unusedSimpArgs false

theorem IntAt.new (w : World) (neg : Bool) (v : Value) : IntAt (w.alloc (.cells #[.bool neg, v] 121)) w.heap.size 0 neg v :=
  ⟨cn rfl, cn rfl, fn rfl, fn rfl, ⟨_, _, Go.heap_alloc_new _ _⟩⟩
/-- What impl.of gives: a new Int. -/
def OfR (l : List Int) (w : World) (e : Ending) (w' : World) : Prop := ∃ g neg v, e = .returned (.pointer (some ⟨g, 0, none⟩)) ∧ w.heap.size ≤ g ∧ IntAt w' g 0 neg v ∧ N1 w' v (hd0 l) ∧ Below w.heap.size w w'
theorem own_ne {v : Value} {b n : Nat} (h : ∀ k, v.ownBlock = some k → n ≤ k ∧ True) (hb : b < n) : ∀ k, v.ownBlock = some k → k ≠ b := fun k hk => by have := (h k hk).1; omega
set_option maxRecDepth 100000 in
set_option maxHeartbeats 1000000 in
theorem of_any (neg : Bool) (A : Option Addr) (c : Nat) (l : List Int) (hl : Short l) (w : World) (hr : (Kd.int .u64).C w A l.length l) (hc : l.length ≤ c) :
    Calls Tryz.prog 62 #[.agg #[.bool neg, .slice A l.length c]] w (OfR l w) := by
  have HW := Aside0.mk (fun W (hb : Below w.heap.size w W) => wordsOf1 A c l hl W (Kd.C_below hr hb) hc)
  clear hr hc hl
  · go_enter Tryz.func62, Tryz.ntmps62
    go_wp2_with fail
    refine (HW.out _ (below_alloc (below_alloc (Below.refl _ _) _) _)).mono ?_
    rintro e w1 ⟨v, rfl, hv, hk, hb⟩
    have hz : w.heap.size + 2 ≤ w1.heap.size := by have := hb.size; simp only [World.size_alloc] at this; omega
    have hI := IntAt.new (w.alloc (.cells #[.bool neg, .slice A l.length c] 24)) false (.slice none 0 0)
    rw [World.size_alloc] at hI
    have hI := hI.below hb (by simp)
    have hbx := (hb.cell (p := ⟨w.heap.size, 0, none⟩) (by simp only [World.size_alloc]; omega)).trans ((ca (by simp)).trans (cn rfl))
    have HK := Aside0.mk (show Below w.heap.size w w1 ∧ (∀ k, v.ownBlock = some k → w.heap.size + 2 ≤ k ∧ k < w1.heap.size) ∧ N1 w1 v (hd0 l) ∧ IntAt w1 (w.heap.size + 1) 0 false (.slice none 0 0) from ⟨(below_alloc (below_alloc (Below.refl _ _) _) _).trans (hb.mono (by simp only [World.size_alloc]; omega)), fun k h => by have := hk k h; simp only [World.size_alloc] at this; omega, hv, hI⟩)
    have HX := Aside0.mk hbx
    clear hb hv hk hI hbx
    go_wp2_with fail
    refine (setBits (w.heap.size + 1) 0 v (.slice none 0 0) (hd0 l) false w1 HK.out.2.2.2 HK.out.2.2.1).mono ?_
    rintro e w2 ⟨rfl, hw2⟩
    have hK2 : Kept1 (w.heap.size + 1) w1 w2 := by rw [hw2]; exact putI_kept
    have hI2 : IntAt w2 (w.heap.size + 1) 0 false v := by rw [hw2]; exact putI_int HK.out.2.2.2
    have hN2 : N1 w2 v (hd0 l) := HK.out.2.2.1.kept hK2 (fun k h => by have := HK.out.2.1 k h; omega)
    have hbx := (hK2.cell (k := w.heap.size) (i := 0) (by omega) (by omega)).trans HX.out
    have HF := Aside0.mk (show Below w.heap.size w w2 ∧ IntAt w2 (w.heap.size + 1) 0 false v ∧ N1 w2 v (hd0 l) from ⟨hK2.new HK.out.1 (by omega) (by omega), hI2, hN2⟩)
    clear hw2 hK2 hI2 hN2 HX
    cases neg
    · go_wp2
      go_ret
      exact ⟨_, _, _, rfl, by omega, HF.out.2.1, HF.out.2.2, HF.out.1⟩
    go_wp2_with fail
    refine (neg_self (w.heap.size + 1) v (hd0 l) false w2 HF.out.2.1 HF.out.2.2).mono ?_
    rintro e w3 ⟨neg', rfl, hw3⟩
    have hK3 : Kept1 (w.heap.size + 1) w2 w3 := by rw [← hw3]; exact (Kept1.refl _ _).set _ _ _ (.inl rfl)
    have hI3 : IntAt w3 (w.heap.size + 1) 0 neg' v := by
      rw [← hw3]
      exact ⟨World.cell?_setCell_same _ _ _ HF.out.2.1.c0, (World.cell?_setCell_other _ _ _ _ (by simp)).trans HF.out.2.1.c1, by simp [HF.out.2.1.z0], by simp [HF.out.2.1.z1], HF.out.2.1.cs.set _ _ _⟩
    have hN3 : N1 w3 v (hd0 l) := HF.out.2.2.kept hK3 (fun k h => by have := HK.out.2.1 k h; omega)
    have HF3 := Aside0.mk (show Below w.heap.size w w3 ∧ IntAt w3 (w.heap.size + 1) 0 neg' v ∧ N1 w3 v (hd0 l) from ⟨hK3.new HF.out.1 HF.out.1.size (by omega), hI3, hN3⟩)
    clear hw3 hK3 hI3 hN3
    go_wp2
    go_ret
    exact ⟨_, _, _, rfl, by omega, HF3.out.2.1, HF3.out.2.2, HF3.out.1⟩
/-- A Rat in memory: a numerator and a denominator. -/
structure RatAt (W : World) (g : Nat) (neg : Bool) (v1 v2 : Value) : Prop where
  a : IntAt W g 0 neg v1
  b : IntAt W g 2 false v2
theorem RatAt.kept {W W' : World} {b g : Nat} {neg : Bool} {v v2 : Value} (h : RatAt W b neg v v2) (hk : Kept1 g W W') (hg : b ≠ g) : RatAt W' b neg v v2 := ⟨h.a.kept hk hg, h.b.kept hk hg⟩
theorem RatAt.below {W W' : World} {b B : Nat} {neg : Bool} {v v2 : Value} (h : RatAt W b neg v v2) (hk : Below B W W') (hB : b < B) : RatAt W' b neg v v2 := ⟨h.a.below hk hB, h.b.below hk hB⟩
theorem RatAt.new (w : World) (neg : Bool) (v v2 : Value) : RatAt (w.alloc (.cells #[.bool neg, v, .bool false, v2] 137)) w.heap.size neg v v2 :=
  ⟨⟨cn rfl, cn rfl, fn rfl, fn rfl, ⟨_, _, Go.heap_alloc_new _ _⟩⟩, ⟨cn rfl, cn rfl, fn rfl, fn rfl, ⟨_, _, Go.heap_alloc_new _ _⟩⟩⟩
/-- What a Rat holds behind SetInt, SetInt64, Add: a numerator, a denominator of one word. -/
def RatR (g : Nat) (x : Int) (w : World) (e : Ending) (w' : World) : Prop :=
  ∃ neg v1 v2, e = .returned (.pointer (some ⟨g, 0, none⟩)) ∧ RatAt w' g neg v1 v2 ∧ N1 w' v1 x ∧ N1 w' v2 1 ∧ (∀ k, v1.ownBlock = some k → w.heap.size ≤ k) ∧ (∀ k, v2.ownBlock = some k → w.heap.size ≤ k) ∧ Kept1 g w w'
theorem N1.fresh {w : World} {x : Int} (h0 : 0 < x) (h1 : x < 18446744073709551616) : N1 (w.alloc (.cells #[.int .u64 x] 132)) (.slice (some ⟨w.heap.size, 0, none⟩) 1 1) x := .one _ _ _ h0 h1 (Nat.le_refl _) (cn rfl) (fn rfl)
theorem rat_end {g : Nat} {x : Int} {neg : Bool} {w w1 : World} {v1 v0 : Value} (hR : RatAt w1 g neg v1 v0) (hN : N1 w1 v1 x) (ho : ∀ k, v1.ownBlock = some k → w.heap.size ≤ k) (hK : Kept1 g w w1) (hg : g < w.heap.size) :
    RatR g x w (.returned (.pointer (some ⟨g, 0, none⟩))) ((w1.setCell ⟨g, 3, none⟩ (.slice (some ⟨w1.heap.size, 0, none⟩) 1 1)).alloc (.cells #[.int .u64 1] 132)) := by
  have hgl : g < w1.heap.size := hR.a.lt
  have hs : (w1.setCell ⟨g, 3, none⟩ (.slice (some ⟨w1.heap.size, 0, none⟩) 1 1)).heap.size = w1.heap.size := by simp
  have hk : Kept1 g w1 (w1.setCell ⟨g, 3, none⟩ (.slice (some ⟨w1.heap.size, 0, none⟩) 1 1)) := (Kept1.refl _ _).set _ _ _ (.inl rfl)
  have hb : Below w1.heap.size (w1.setCell ⟨g, 3, none⟩ (.slice (some ⟨w1.heap.size, 0, none⟩) 1 1)) ((w1.setCell ⟨g, 3, none⟩ (.slice (some ⟨w1.heap.size, 0, none⟩) 1 1)).alloc (.cells #[.int .u64 1] 132)) := by
    have := below_alloc (Below.refl (w1.setCell ⟨g, 3, none⟩ (.slice (some ⟨w1.heap.size, 0, none⟩) 1 1)).heap.size _) (.cells #[.int .u64 1] 132)
    rw [hs] at this
    exact this
  have hr : RatAt (w1.setCell ⟨g, 3, none⟩ (.slice (some ⟨w1.heap.size, 0, none⟩) 1 1)) g neg v1 (.slice (some ⟨w1.heap.size, 0, none⟩) 1 1) :=
    ⟨⟨(World.cell?_setCell_other _ _ _ _ (by simp)).trans hR.a.c0, (World.cell?_setCell_other _ _ _ _ (by simp)).trans hR.a.c1, by simp [hR.a.z0], (by simpa using hR.a.z1), hR.a.cs.set _ _ _⟩,
     ⟨(World.cell?_setCell_other _ _ _ _ (by simp)).trans hR.b.c0, World.cell?_setCell_same _ _ _ hR.b.c1, by simp [hR.b.z0], (by simpa using hR.b.z1), hR.b.cs.set _ _ _⟩⟩
  have hv : ∀ k, v1.ownBlock = some k → k ≠ g := fun k h => by have := ho k h; omega
  refine ⟨neg, v1, _, rfl, hr.below hb hgl, ?_, ?_, ho, ?_, (hK.trans hk).below hK.size hb⟩
  · exact (hN.kept (hk.below (Nat.le_refl _) hb) hv)
  · exact .one w1.heap.size 1 1 (by decide) (by decide) (Nat.le_refl _) (cn hs.symm) (fn hs.symm)
  · intro k h
    simp [Value.ownBlock] at h
    have := hK.size
    omega
set_option maxRecDepth 100000 in
set_option maxHeartbeats 1000000 in
theorem rat_setInt (g b : Nat) (v : Value) (x : Int) (neg : Bool) (w : World) (hg : RatAt w g false (.slice none 0 0) (.slice none 0 0)) (hx : IntAt w b 0 neg v) (hv : N1 w v x) (hne : g ≠ b) :
    Calls Tryz.prog 122 #[.pointer (some ⟨g, 0, none⟩), .pointer (some ⟨b, 0, none⟩)] w (RatR g x w) := by
  have HS := Aside0.mk (int_set g 0 b 0 v x neg false w hne hg.a hx hv)
  have HG := Aside0.mk hg
  clear hg hx hv hne
  go_enter Tryz.func122, Tryz.ntmps122
  go_wp2_with fail
  refine HS.out.mono ?_
  rintro e w1 ⟨v1, rfl, hN, hI, hK, ho, hc, hf⟩
  have hR1 : IntAt w1 g 2 false (.slice none 0 0) := ⟨(hc 2 (by decide) (by decide)).trans HG.out.b.c0, (hc 3 (by decide) (by decide)).trans HG.out.b.c1, (hf 2).trans HG.out.b.z0, (hf 3).trans HG.out.b.z1, hI.cs⟩
  have b1 := hR1.c1
  have bz := hR1.z1
  have HF := Aside0.mk (show N1 w1 v1 x ∧ IntAt w1 g 0 neg v1 ∧ Kept1 g w w1 ∧ (∀ k, v1.ownBlock = some k → w.heap.size ≤ k) ∧ IntAt w1 g 2 false (.slice none 0 0) from ⟨hN, hI, hK, ho, hR1⟩)
  have hgl : g < w1.heap.size := hI.lt
  clear hN hI hK ho hc hf hR1
  go_wp2_with (go_at_call 107; refine (setWord1 1 (by decide) _).mono ?_; rintro e w' ⟨rfl, rfl⟩)
  go_ret
  obtain ⟨hN, hI, hK, ho, hR1⟩ := HF.out
  exact rat_end ⟨hI, hR1⟩ hN ho hK (HG.out.a.lt)
set_option maxRecDepth 100000 in
set_option maxHeartbeats 1000000 in
theorem int_set64 (g : Nat) (neg : Bool) (w : World) (hg : IntAt w g 0 neg (.slice none 0 0)) :
    Calls Tryz.prog 77 #[.pointer (some ⟨g, 0, none⟩), .int .i64 0] w (PutR w g 0 false (.slice none 0 0)) := by
  have h0 := hg.c0
  have h1 := hg.c1
  have z0 := hg.z0
  have z1 := hg.z1
  have HS : ∀ W, Calls Tryz.prog 140 #[.slice none 0 0, .int .u64 0] W fun e w' => e = .returned (.slice none 0 0) ∧ W = w' := by
    intro W
    go_enter Tryz.func140, Tryz.ntmps140
    go_wp2_with (go_at_call 107; refine (setWord0 _).mono ?_; rintro e w' ⟨rfl, rfl⟩)
    go_ret
    exact ⟨rfl, rfl⟩
  have HS := Aside0.mk HS
  clear hg
  go_enter Tryz.func77, Tryz.ntmps77
  go_wp2_with (go_at_call 140; refine (HS.out _).mono ?_; rintro e w' ⟨rfl, rfl⟩)
  go_ret
  exact ⟨rfl, rfl⟩
set_option maxRecDepth 100000 in
set_option maxHeartbeats 1000000 in
theorem rat_set0 (g : Nat) (w : World) (hg : RatAt w g false (.slice none 0 0) (.slice none 0 0)) :
    Calls Tryz.prog 143 #[.pointer (some ⟨g, 0, none⟩), .int .i64 0] w (RatR g 0 w) := by
  have HS := Aside0.mk (int_set64 g false w hg.a)
  have HG := Aside0.mk hg
  clear hg
  go_enter Tryz.func143, Tryz.ntmps143
  go_wp2_with fail
  refine HS.out.mono ?_
  rintro e w1 ⟨rfl, hw⟩
  have hI : IntAt w1 g 0 false (.slice none 0 0) := by rw [hw]; exact putI_int HG.out.a
  have hK : Kept1 g w w1 := by rw [hw]; exact putI_kept
  have hR1 : IntAt w1 g 2 false (.slice none 0 0) := by
    rw [hw]
    exact ⟨(putI_cell 2 (by decide) (by decide)).trans HG.out.b.c0, (putI_cell 3 (by decide) (by decide)).trans HG.out.b.c1, (putI_frozen _).trans HG.out.b.z0, (putI_frozen _).trans HG.out.b.z1, hI.cs.casesOn fun _ _ => by rw [← hw]; exact hI.cs⟩
  have b1 := hR1.c1
  have bz := hR1.z1
  have HF := Aside0.mk (show IntAt w1 g 0 false (.slice none 0 0) ∧ Kept1 g w w1 ∧ IntAt w1 g 2 false (.slice none 0 0) from ⟨hI, hK, hR1⟩)
  have hgl : g < w1.heap.size := hI.lt
  clear hI hK hR1 hw
  go_wp2_with (go_at_call 107; refine (setWord1 1 (by decide) _).mono ?_; rintro e w' ⟨rfl, rfl⟩)
  go_ret
  obtain ⟨hI, hK, hR1⟩ := HF.out
  exact rat_end ⟨hI, hR1⟩ (.zero none 0) (fun k hk => by simp [Value.ownBlock] at hk) hK (HG.out.a.lt)
set_option maxRecDepth 100000 in
set_option maxHeartbeats 1000000 in
theorem rat_denom (g : Nat) (A : Option Addr) (c : Nat) (w : World) (h : w.cell? ⟨g, 3, none⟩ = some (.slice A 1 c)) :
    Calls Tryz.prog 80 #[.pointer (some ⟨g, 0, none⟩)] w fun e w' => e = .returned (.pointer (some ⟨g, 2, none⟩)) ∧ w = w' := by
  go_enter Tryz.func80, Tryz.ntmps80
  go_wp2
  go_ret
  exact ⟨rfl, rfl⟩
set_option maxRecDepth 100000 in
set_option maxHeartbeats 1000000 in
theorem rat_num (g : Nat) (w : World) :
    Calls Tryz.prog 78 #[.pointer (some ⟨g, 0, none⟩)] w fun e w' => e = .returned (.pointer (some ⟨g, 0, none⟩)) ∧ w = w' := by
  go_enter Tryz.func78, Tryz.ntmps78
  go_wp2
  go_ret
  exact ⟨rfl, rfl⟩
/-- A number that is not 0 lies in a row of one word. -/
theorem N1.form {W : World} {v : Value} {x : Int} (h : N1 W v x) (h0 : 0 < x) : ∃ A c, v = .slice A 1 c := by
  cases h with
  | zero A c => omega
  | one g c x _ _ _ _ _ => exact ⟨_, _, rfl⟩
end Go.Proofs.YtbcgeeaboecmgaaGreatDoor

/- impl.over, constant.makeRat, i64tor, at one word. -/
import Derived.Test.YtbcgeeaboecmgaaGreatDoorBigR
import Derived.OpenShut
namespace Go.Proofs.YtbcgeeaboecmgaaGreatDoor
open Go Go.RowKit Go.Proofs.YtbcgeeaboecmgaaGreatDoorW.PrintWords
set_option linter.unusedVariables false
set_option linter.unusedSimpArgs false

theorem RatAt.den {W : World} {g : Nat} {neg : Bool} {v1 v2 v : Value} (h : RatAt W g neg v1 v2) : RatAt (putI W g 2 false v) g neg v1 v :=
  ⟨⟨(putI_cell 0 (by decide) (by decide)).trans h.a.c0, (putI_cell 1 (by decide) (by decide)).trans h.a.c1, (putI_frozen _).trans h.a.z0, (putI_frozen _).trans h.a.z1, (putI_int (neg := false) (v := v) h.b).cs⟩, putI_int h.b⟩
def OvR (l : List Int) (w : World) (e : Ending) (w' : World) : Prop := ∃ g neg v1 v2, e = .returned (.pointer (some ⟨g, 0, none⟩)) ∧ w.heap.size ≤ g ∧ RatAt w' g neg v1 v2 ∧ N1 w' v1 (hd0 l) ∧ N1 w' v2 1 ∧ Below w.heap.size w w'
set_option maxRecDepth 100000 in
set_option maxHeartbeats 1000000 in
theorem over_any (neg : Bool) (A : Option Addr) (c : Nat) (l : List Int) (hl : Short l) (B : Option Addr) (d : Nat) (w : World) (hr : (Kd.int .u64).C w A l.length l) (hc : l.length ≤ c) (hr2 : (Kd.int .u64).C w B 1 [1]) (hc2 : 1 ≤ d) :
    Calls Tryz.prog 63 #[.agg #[.bool neg, .slice A l.length c], .slice B 1 d] w (OvR l w) := by
  have HO := Aside0.mk (fun W (hb : Below w.heap.size w W) => of_any neg A c l hl W (Kd.C_below hr hb) hc)
  have HW := Aside0.mk (fun W (hb : Below w.heap.size w W) => wordsOf1 B d [1] (.inr ⟨1, rfl, by decide, by decide⟩) W (Kd.C_below hr2 hb) hc2)
  clear hr hc hl hr2 hc2
  go_enter Tryz.func63, Tryz.ntmps63
  go_wp2_with fail
  refine (HO.out _ (below_alloc (below_alloc (Below.refl _ _) _) _)).mono ?_
  rintro e w1 ⟨g1, neg1, v1, rfl, hg1, hI1, hN1, hb⟩
  have hz : w.heap.size + 2 ≤ w1.heap.size := by have := hb.size; simp only [World.size_alloc] at this; omega
  have hR := RatAt.new (w.alloc (.cells #[.bool neg, .slice A l.length c] 24)) false (.slice none 0 0) (.slice none 0 0)
  rw [World.size_alloc] at hR
  have hR := hR.below hb (by simp)
  simp only [World.size_alloc] at hg1
  have HB1 := Aside0.mk (show Below w.heap.size w w1 from (below_alloc (below_alloc (Below.refl _ _) _) _).trans (hb.mono (by simp only [World.size_alloc]; omega)))
  have HS := Aside0.mk (rat_setInt (w.heap.size + 1) g1 v1 (hd0 l) neg1 w1 hR hI1 hN1 (by omega))
  clear hb hR hI1 hN1 hg1 HO
  go_wp2_with fail
  refine HS.out.mono ?_
  rintro e w2 ⟨neg2, v2, d2, rfl, hR2, hN2, hD2, ho2, hod2, hK2⟩
  obtain ⟨A3, c3, hd3⟩ := hD2.form (by decide)
  have hden := hR2.b.c1
  rw [hd3] at hden
  have HB2 := Aside0.mk (show Below w.heap.size w w2 from hK2.new HB1.out (by omega) (by omega))
  have hz2 : w.heap.size + 2 ≤ w2.heap.size := Nat.le_trans hz hK2.size
  have HR2 := Aside0.mk (show RatAt w2 (w.heap.size + 1) neg2 v2 d2 ∧ N1 w2 v2 (hd0 l) ∧ (∀ k, v2.ownBlock = some k → w1.heap.size ≤ k) from ⟨hR2, hN2, ho2⟩)
  clear hR2 hN2 hD2 ho2 hod2 hK2 HS hd3
  go_wp2_with (go_at_call 80; refine (rat_denom (w.heap.size + 1) A3 c3 _ hden).mono ?_; rintro e w' ⟨rfl, rfl⟩)
  refine (HW.out _ HB2.out).mono ?_
  rintro e w3 ⟨vd, rfl, hN3, hk3, hb3⟩
  have hR3 := HR2.out.1.below hb3 (by omega)
  have HF3 := Aside0.mk (show Below w.heap.size w w3 ∧ RatAt w3 (w.heap.size + 1) neg2 v2 d2 ∧ N1 w3 v2 (hd0 l) ∧ (∀ k, v2.ownBlock = some k → w.heap.size + 2 ≤ k) ∧ N1 w3 vd 1 ∧ (∀ k, vd.ownBlock = some k → w.heap.size + 2 ≤ k) ∧ w.heap.size + 2 ≤ w3.heap.size from
    ⟨HB2.out.trans (hb3.mono (by omega)), hR3, HR2.out.2.1.below hb3, fun k h => Nat.le_trans hz (HR2.out.2.2 k h), hN3, fun k h => by have := (hk3 k h).1; omega, Nat.le_trans hz2 hb3.size⟩)
  clear hR3 hN3 hk3 hb3 HR2 HB2 HB1
  go_wp2_with fail
  refine (setBits (w.heap.size + 1) 2 vd d2 1 false w3 HF3.out.2.1.b HF3.out.2.2.2.2.1).mono ?_
  rintro e w4 ⟨rfl, hw4⟩
  have hR4 : RatAt w4 (w.heap.size + 1) neg2 v2 vd := by rw [hw4]; exact HF3.out.2.1.den
  have hK4 : Kept1 (w.heap.size + 1) w3 w4 := by rw [hw4]; exact putI_kept
  have HF4 := Aside0.mk (show RatAt w4 (w.heap.size + 1) neg2 v2 vd ∧ N1 w4 v2 (hd0 l) ∧ N1 w4 vd 1 ∧ Below w.heap.size w w4 from
    ⟨hR4, HF3.out.2.2.1.kept hK4 (fun k h => by have := HF3.out.2.2.2.1 k h; omega), HF3.out.2.2.2.2.1.kept hK4 (fun k h => by have := HF3.out.2.2.2.2.2.1 k h; omega), hK4.new HF3.out.1 (by have := HF3.out.2.2.2.2.2.2; omega) (by omega)⟩)
  clear hR4 hK4 hw4
  go_wp2
  go_ret
  exact ⟨_, _, _, _, rfl, by omega, HF4.out⟩
theorem bitAux_le : ∀ f x : Nat, Lib.bitLenAux f x ≤ f := by
  intro f
  induction f with
  | zero => intro x; exact Nat.le_refl _
  | succ f ih =>
    intro x
    unfold Lib.bitLenAux
    split
    · omega
    · have := ih (x / 2)
      omega
def LenR (m : Int) (w : World) (e : Ending) (w' : World) : Prop := ∃ n : Int, 0 ≤ n ∧ n ≤ m ∧ e = .returned (.int .i64 n) ∧ w = w'
set_option maxRecDepth 100000 in
set_option maxHeartbeats 1000000 in
theorem bits_len (x : Int) (hx : (Lit.int .u64 x).wf = true) (w : World) : Calls Tryz.prog 263 #[.int .u64 x] w (LenR 64 w) := by
  have hb : 0 ≤ x ∧ x ≤ 18446744073709551615 := by simpa [Lit.wf, IntKind.min, IntKind.max, IntKind.signed, IntKind.bits] using hx
  have HL := Aside0.mk (fun w => Tryz.bits_Len64 x w hb.1 hb.2)
  have h64 : Lib.bitLen x.toNat ≤ 64 := bitAux_le 64 _
  have H64 := Aside0.mk h64
  clear hx hb h64
  go_enter Tryz.func263, Tryz.ntmps263
  go_wp2_with fail
  refine (HL.out _).mono ?_
  rintro e w' ⟨rfl, rfl⟩
  go_wp2
  go_ret
  exact ⟨_, by omega, by have := H64.out; omega, rfl, rfl⟩
set_option maxRecDepth 100000 in
set_option maxHeartbeats 1000000 in
theorem bitLen1 (v : Value) (x : Int) (w : World) (h : N1 w v x) : Calls Tryz.prog 206 #[v] w (LenR 64 w) := by
  cases h with
  | zero A c =>
    go_enter Tryz.func206, Tryz.ntmps206
    go_wp2
    go_ret
    exact ⟨0, by decide, by decide, rfl, rfl⟩
  | one g c x h0 h1 hc hx hz =>
    have H0 := Aside0.mk h0
    clear h0 h1
    go_enter Tryz.func206, Tryz.ntmps206
    go_wp2_with fail
    refine (bits_len _ (wf_bits _ _ _ _) _).mono ?_
    rintro e w' ⟨n, h0, h1, rfl, rfl⟩
    go_wp2
    go_ret
    exact ⟨n, h0, h1, rfl, rfl⟩
set_option maxRecDepth 100000 in
set_option maxHeartbeats 1000000 in
theorem smallInt1 (b o : Nat) (neg : Bool) (v : Value) (x : Int) (w : World) (hI : IntAt w b o neg v) (h : N1 w v x) : Calls Tryz.prog 90 #[.pointer (some ⟨b, o, none⟩)] w fun e w' => e = .returned (.bool true) ∧ w = w' := by
  have c1 := hI.c1
  have HB := Aside0.mk (bitLen1 v x w h)
  have HL : Calls Tryz.prog 160 #[.pointer (some ⟨b, o, none⟩)] w (LenR 64 w) := by
    clear hI h
    go_enter Tryz.func160, Tryz.ntmps160
    go_wp2_with fail
    refine HB.out.mono ?_
    rintro e w' ⟨n, h0, h1, rfl, rfl⟩
    go_wp2
    go_ret
    exact ⟨n, h0, h1, rfl, rfl⟩
  have HL := Aside0.mk HL
  clear hI h HB
  go_enter Tryz.func90, Tryz.ntmps90
  go_wp2_with fail
  refine HL.out.mono ?_
  rintro e w' ⟨n, h0, h1, rfl, rfl⟩
  have hd : decide (n < 4096) = true := by simp; omega
  go_wp2
  go_ret
  exact ⟨rfl, rfl⟩
/-- A Rat as a value of the package. -/
abbrev ratV (g : Nat) : Value := .iface 80 (.agg #[.pointer (some ⟨g, 0, none⟩)])
set_option maxRecDepth 100000 in
set_option maxHeartbeats 1000000 in
theorem makeRat1 (g : Nat) (neg : Bool) (v1 v2 : Value) (x : Int) (w : World) (hR : RatAt w g neg v1 v2) (h1 : N1 w v1 x) (h2 : N1 w v2 1) :
    Calls Tryz.prog 34 #[.pointer (some ⟨g, 0, none⟩)] w fun e w' => e = .returned (ratV g) ∧ w = w' := by
  obtain ⟨A, c, hv2⟩ := h2.form (by decide)
  have hd := hR.b.c1
  rw [hv2] at hd
  have HA := Aside0.mk (smallInt1 g 0 neg v1 x w hR.a h1)
  have HB := Aside0.mk (smallInt1 g 2 false v2 1 w hR.b h2)
  clear hR h1 h2 hv2
  go_enter Tryz.func34, Tryz.ntmps34
  go_wp2_with (first
    | (go_at_call 78; refine (rat_num g _).mono ?_; rintro e w' ⟨rfl, rfl⟩)
    | (go_at_call 80; refine (rat_denom g A c _ hd).mono ?_; rintro e w' ⟨rfl, rfl⟩)
    | (go_at_call 90; (with_reducible refine HA.out.mono ?_); rintro e w' ⟨rfl, rfl⟩)
    | (go_at_call 90; (with_reducible refine HB.out.mono ?_); rintro e w' ⟨rfl, rfl⟩))
  go_ret
  exact ⟨rfl, rfl⟩
abbrev ratW (w : World) : World := w.alloc (.cells #[.bool false, .slice none 0 0, .bool false, .slice none 0 0] 137)
set_option maxRecDepth 100000 in
theorem newRat1 (w : World) : Calls Tryz.prog 36 #[] w fun e w' => e = .returned (.pointer (some ⟨w.heap.size, 0, none⟩)) ∧ ratW w = w' := by
  go_enter Tryz.func36, Tryz.ntmps36
  go_wp2
  go_ret
  exact ⟨rfl, rfl⟩
def I64R (w : World) (e : Ending) (w' : World) : Prop := ∃ g v1 v2 neg, e = .returned (.agg #[.pointer (some ⟨g, 0, none⟩)]) ∧ w.heap.size ≤ g ∧ RatAt w' g neg v1 v2 ∧ N1 w' v1 0 ∧ N1 w' v2 1 ∧ Below w.heap.size w w'
set_option maxRecDepth 100000 in
set_option maxHeartbeats 1000000 in
theorem i64tor0 (w : World) : Calls Tryz.prog 146 #[.int .i64 0] w (I64R w) := by
  have hR := RatAt.new (w.alloc (.cells #[.pointer none] 80)) false (.slice none 0 0) (.slice none 0 0)
  rw [World.size_alloc] at hR
  have HS := Aside0.mk (rat_set0 (w.heap.size + 1) _ hR)
  clear hR
  go_enter Tryz.func146, Tryz.ntmps146
  go_wp2_with (go_at_call 36; (with_reducible refine (newRat1 _).mono ?_); rintro e w' ⟨rfl, rfl⟩)
  with_reducible refine HS.out.mono ?_
  rintro e w1 ⟨neg, v1, v2, rfl, hR, h1, h2, ho1, ho2, hK⟩
  have hz : w.heap.size + 2 ≤ w1.heap.size := by have := hK.size; simp only [World.size_alloc] at this; omega
  have e0 := (hK.cell (k := w.heap.size) (i := 0) (by simp only [World.size_alloc]; omega) (by omega)).trans ((ca (by simp)).trans (cn rfl))
  have f0 := (hK.frozen (k := w.heap.size) (i := 0) (by simp only [World.size_alloc]; omega) (by omega)).trans ((fa (by simp)).trans (fn rfl))
  have hK2 : Below w.heap.size w w1 := hK.new (below_alloc (below_alloc (Below.refl _ _) _) _) (by simp only [World.size_alloc]; omega) (by omega)
  have HF := Aside0.mk (show RatAt w1 (w.heap.size + 1) neg v1 v2 ∧ N1 w1 v1 0 ∧ N1 w1 v2 1 ∧ Below w.heap.size w w1 ∧ (∀ k, v1.ownBlock = some k → k ≠ w.heap.size) ∧ (∀ k, v2.ownBlock = some k → k ≠ w.heap.size) from ⟨hR, h1, h2, hK2, fun k h => by have := ho1 k h; simp only [World.size_alloc] at this; omega, fun k h => by have := ho2 k h; simp only [World.size_alloc] at this; omega⟩)
  clear hR h1 h2 hK hK2 ho1 ho2
  go_wp2
  have hk := (Kept1.refl w.heap.size w1).set w.heap.size 0 (.pointer (some ⟨w.heap.size + 1, 0, none⟩)) (.inl rfl)
  obtain ⟨hR, h1, h2, hb, n1, n2⟩ := HF.out
  refine bodyPost_ret (v := .agg #[.pointer (some ⟨w.heap.size + 1, 0, none⟩)]) (by simp [results, Tryz.results146, go_sem, e0]) rfl ⟨w.heap.size + 1, v1, v2, neg, rfl, by omega, hR.kept hk (by omega), h1.kept hk n1, h2.kept hk n2, hb.setCell (by simp) _⟩
end Go.Proofs.YtbcgeeaboecmgaaGreatDoor

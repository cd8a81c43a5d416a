/- constant.reverse of two texts, and stringVal.string of a sum of two texts. -/
import Derived.Test.YtlfmgidpdmmpkaaGreatDoorSum
import Derived.Test.YtlfmgidpdmmpkaaGreatDoorShelf
namespace Go.Proofs.YtlfmgidpdmmpkaaGreatDoor
open Go Go.RowKit Go.Proofs.YtlfmgidpdmmpkaaGreatDoorW.PrintWords Go.MuLone
set_option linter.unusedVariables false
set_option linter.unusedSimpArgs false

theorem own_two {w : World} {B : Nat} {e : TypeId} {v a b : Value} (h : w.ownsRow B e 1 v 2 [a, b]) :
    ∃ g cap, v = .slice (some ⟨g, 0, none⟩) 2 cap ∧ B ≤ g ∧ g < w.heap.size ∧ 2 ≤ cap ∧ w.cell? ⟨g, 0, none⟩ = some a ∧ w.cell? ⟨g, 1, none⟩ = some b ∧ w.frozen? ⟨g, 0, none⟩ = false ∧ w.frozen? ⟨g, 1, none⟩ = false := by
  obtain ⟨hl, h | ⟨g, cap, cur, rfl, hB, hh, h1, h2, h3, h4⟩⟩ := h
  · omega
  have hs : 2 ≤ cur.size := by omega
  have e0 : cur.toList[0]? = some a := by
    have : (cur.toList.take (2 * 1))[0]? = some a := by rw [h4]; rfl
    rw [List.getElem?_take] at this
    simpa using this
  have e1 : cur.toList[1]? = some b := by
    have : (cur.toList.take (2 * 1))[1]? = some b := by rw [h4]; rfl
    rw [List.getElem?_take] at this
    simpa using this
  have hg : g < w.heap.size := by
    apply Decidable.byContradiction
    intro hn
    rw [Array.getElem?_eq_none (by omega)] at hh
    simp at hh
  refine ⟨g, cap, rfl, hB, hg, h1, ?_, ?_, ?_, ?_⟩
  · simp [World.cell?, hh]; simpa using e0
  · simp [World.cell?, hh]; simpa using e1
  · simp [World.frozen?, hh]
  · simp [World.frozen?, hh]
def RRes (g : Nat) (cap : Nat) (s t : ByteArray) (B : Nat) (w0 : World) (e : Ending) (w' : World) : Prop :=
  e = .returned (.slice (some ⟨g, 0, none⟩) 2 cap) ∧ w'.cell? ⟨g, 0, none⟩ = some (.string s) ∧ w'.cell? ⟨g, 1, none⟩ = some (.string t) ∧ Below B w0 w' ∧ g < w'.heap.size
set_option maxRecDepth 100000 in
set_option maxHeartbeats 400000 in
theorem reverse2 (g cap : Nat) (s t : ByteArray) (B : Nat) (w : World) (hB : B ≤ g) (hg : g < w.heap.size) (hcap : 2 ≤ cap) (h0 : w.cell? ⟨g, 0, none⟩ = some (.string t)) (h1 : w.cell? ⟨g, 1, none⟩ = some (.string s)) (z0 : w.frozen? ⟨g, 0, none⟩ = false) (z1 : w.frozen? ⟨g, 1, none⟩ = false) :
    Calls Tryz.prog 139 #[.slice (some ⟨g, 0, none⟩) 2 cap] w (RRes g cap s t B w) := by
  have HH := Aside0.mk (And.intro hB hg)
  clear hB hg
  go_enter Tryz.func139, Tryz.ntmps139
  go_wp2
  go_loopw [4] (fun i wr => (i = .int .i64 0 ∧ w = wr) ∨ (i = .int .i64 1 ∧ wr.cell? ⟨g, 0, none⟩ = some (.string s) ∧ wr.cell? ⟨g, 1, none⟩ = some (.string t) ∧ Below B w wr ∧ g < wr.heap.size)) (fun i _ => 2 - (intOf i).toNat)
  case atStart => exact .inl ⟨rfl, rfl⟩
  case round =>
    rcases hrel with ⟨rfl, rfl⟩ | ⟨rfl, c0, c1, hb, hz⟩
    · go_wp2
      go_region
      go_wp2
      refine ⟨.inr ⟨rfl, ?_, ?_, ?_, ?_⟩, by decide⟩
      · exact (World.cell?_setCell_other _ _ _ _ (by simp)).trans (World.cell?_setCell_same _ _ _ h0)
      · exact World.cell?_setCell_same _ _ _ ((World.cell?_setCell_other _ _ _ _ (by simp)).trans h1)
      · exact (((Below.refl B w).setCell (p := ⟨g, 0, none⟩) HH.out.1 _).setCell (p := ⟨g, 1, none⟩) HH.out.1 _).drew
      · show g < ((w.setCell ⟨g, 0, none⟩ (.string s)).setCell ⟨g, 1, none⟩ (.string t)).heap.size
        simp only [World.size_setCell]
        exact HH.out.2
    · have HB := Aside0.mk hb
      have HZ := Aside0.mk hz
      clear hb hz
      go_wp2
      go_ret
      exact ⟨rfl, c0, c1, HB.out, HZ.out⟩
theorem join2 (g cap : Nat) (s t : ByteArray) (w : World) (h0 : w.cell? ⟨g, 0, none⟩ = some (.string s)) (h1 : w.cell? ⟨g, 1, none⟩ = some (.string t)) (hg : g < w.heap.size) (hcap : 2 ≤ cap) (hl : s.size + t.size ≤ 4096) :
    Calls Tryz.prog 138 #[.slice (some ⟨g, 0, none⟩) 2 cap, .string ⟨#[]⟩] w fun e w' => e = .returned (.string (s ++ t)) ∧ Below w.heap.size w w' := by
  have hj : Lib.join ([s, t].map (·.data.toList)) (⟨#[]⟩ : ByteArray).data.toList = s.data.toList ++ t.data.toList := by simp [Lib.join]
  have hs : (⟨(s.data.toList ++ t.data.toList).toArray⟩ : ByteArray) = s ++ t := by
    apply ByteArray.ext
    simp
  have := Tryz.strings_Join g 0 cap [s, t] ⟨#[]⟩ w (by
    intro j x hj
    match j, hj with
    | 0, hj => simp at hj; subst hj; exact h0
    | 1, hj => simp at hj; subst hj; exact h1
    | (j + 2), hj => simp at hj) hg (by simp) (by simpa using hcap) (by rw [hj]; simp; omega)
  rw [hj, hs] at this
  exact this
/-- A sum that was read: its parts are let go. -/
def SRes (s t : ByteArray) (x a b : Nat) (w : World) (e : Ending) (w' : World) : Prop := e = .returned (.string (s ++ t)) ∧ Kept3 x a b w w'
set_option maxRecDepth 100000 in
set_option maxHeartbeats 1000000 in
theorem string_node (x a b : Nat) (s t : ByteArray) (hl : s.size + t.size ≤ 4096) (w : World) (h : NodeAt w x a b s t) (cx : CellsAt w x) (cA : CellsAt w a) :
    Calls Tryz.prog 74 #[.pointer (some ⟨x, 0, none⟩)] w (SRes s t x a b w) := by
  have h0 := h.c0
  have z0 := h.z0
  have hlt : x < w.heap.size := World.block_lt_of_cell? w _ h.c0
  have c3 : (w.setCell ⟨x, 0, none⟩ (.int .i32 1)).cell? ⟨x, 3, none⟩ = some (.pointer (some ⟨a, 0, none⟩)) := (World.cell?_setCell_other _ _ _ _ (by simp)).trans h.c3
  have c4 : (w.setCell ⟨x, 0, none⟩ (.int .i32 1)).cell? ⟨x, 4, none⟩ = some (.pointer (some ⟨b, 0, none⟩)) := (World.cell?_setCell_other _ _ _ _ (by simp)).trans h.c4
  have sa : StrAt (w.setCell ⟨x, 0, none⟩ (.int .i32 1)) a s := ⟨(cell_far h.xa.symm).trans h.sa.c0, (cell_far h.xa.symm).trans h.sa.c2, (cell_far h.xa.symm).trans h.sa.c3, (cell_far h.xa.symm).trans h.sa.c4, by simp [h.sa.z0]⟩
  have sb : StrAt (w.setCell ⟨x, 0, none⟩ (.int .i32 1)) b t := ⟨(cell_far h.xb.symm).trans h.sb.c0, (cell_far h.xb.symm).trans h.sb.c2, (cell_far h.xb.symm).trans h.sb.c3, (cell_far h.xb.symm).trans h.sb.c4, by simp [h.sb.z0]⟩
  have HAR := Aside0.mk (ar_node x a b s t (w.setCell ⟨x, 0, none⟩ (.int .i32 1)) (by simpa using hlt) c3 c4 h.xa h.xb h.ab sa sb (cx.set _ _ _) (cA.set _ _ _))
  have HH := Aside0.mk h
  have HF := Aside0.mk (show True ∧ x < w.heap.size ∧ s.size + t.size ≤ 4096 from ⟨trivial, hlt, hl⟩)
  clear h sa sb c4 hl cx cA hlt
  go_enter_defers Tryz.func74, Tryz.ntmps74
  go_wp2_with (go_at_call 136; refine (lock_free Tryz.muLib ⟨x, 0, none⟩ _ h0 z0).mono ?_; rintro e w' ⟨rfl, rfl⟩)
  refine HAR.out.mono ?_
  rintro e w1 ⟨v1, rfl, ho1, hb1, hc1, hf1, hz1⟩
  obtain ⟨g, cap, rfl, hg, hgl, hcap, k0, k1, y0, y1⟩ := own_two ho1
  have HRV := Aside0.mk (reverse2 g cap s t (w.setCell ⟨x, 0, none⟩ (.int .i32 1)).heap.size w1 hg hgl hcap k0 k1 y0 y1)
  have HX1 := Aside0.mk (show Kept3 x a b (w.setCell ⟨x, 0, none⟩ (.int .i32 1)) w1 ∧ (∀ i, w1.cell? ⟨x, i, none⟩ = (w.setCell ⟨x, 0, none⟩ (.int .i32 1)).cell? ⟨x, i, none⟩) ∧ (∀ i, w1.frozen? ⟨x, i, none⟩ = (w.setCell ⟨x, 0, none⟩ (.int .i32 1)).frozen? ⟨x, i, none⟩) ∧ (w.setCell ⟨x, 0, none⟩ (.int .i32 1)).heap.size ≤ w1.heap.size ∧ 2 ≤ cap from ⟨hb1, hc1, hf1, hz1, hcap⟩)
  clear ho1 hb1 hc1 hf1 hz1 hg hgl hcap k0 k1 y0 y1 HAR
  go_wp2_with fail
  refine HRV.out.mono ?_
  rintro e w2 ⟨rfl, m0, m1, hb2, hg2⟩
  have hj := join2 g cap s t w2 m0 m1 hg2 HX1.out.2.2.2.2 HF.out.2.2
  have HJ := Aside0.mk hj
  have HB2 := Aside0.mk (show Below (w.setCell ⟨x, 0, none⟩ (.int .i32 1)).heap.size w1 w2 from hb2)
  clear hb2 m0 m1 hj hg2
  go_wp2_with fail
  refine HJ.out.mono ?_
  rintro e w3 ⟨rfl, hb3⟩
  have hx1 : x < (w.setCell ⟨x, 0, none⟩ (.int .i32 1)).heap.size := by simpa using HF.out.2.1
  have hx2 : x < w2.heap.size := Nat.lt_of_lt_of_le hx1 (Nat.le_trans HX1.out.2.2.2.1 HB2.out.size)
  have e3 : ∀ i, w3.cell? ⟨x, i, none⟩ = (w.setCell ⟨x, 0, none⟩ (.int .i32 1)).cell? ⟨x, i, none⟩ := fun i => (hb3.cell (p := ⟨x, i, none⟩) hx2).trans ((HB2.out.cell (p := ⟨x, i, none⟩) hx1).trans (HX1.out.2.1 i))
  have f3 : ∀ i, w3.frozen? ⟨x, i, none⟩ = w.frozen? ⟨x, i, none⟩ := fun i => (hb3.frozen (p := ⟨x, i, none⟩) hx2).trans ((HB2.out.frozen (p := ⟨x, i, none⟩) hx1).trans ((HX1.out.2.2.1 i).trans (by simp)))
  have k0 : w3.cell? ⟨x, 0, none⟩ = some (.int .i32 1) := (e3 0).trans (World.cell?_setCell_same _ _ _ HH.out.c0)
  have k2 : w3.cell? ⟨x, 2, none⟩ = some (.string ⟨#[]⟩) := (e3 2).trans ((World.cell?_setCell_other _ _ _ _ (by simp)).trans HH.out.c2)
  have k3 : w3.cell? ⟨x, 3, none⟩ = some (.pointer (some ⟨a, 0, none⟩)) := (e3 3).trans ((World.cell?_setCell_other _ _ _ _ (by simp)).trans HH.out.c3)
  have k4 : w3.cell? ⟨x, 4, none⟩ = some (.pointer (some ⟨b, 0, none⟩)) := (e3 4).trans ((World.cell?_setCell_other _ _ _ _ (by simp)).trans HH.out.c4)
  have y0 := (f3 0).trans HH.out.z0
  have y2 := (f3 2).trans HH.out.z2
  have y3 := (f3 3).trans HH.out.z3
  have y4 := (f3 4).trans HH.out.z4
  have HB3 := Aside0.mk (show Kept3 x a b w w3 from ((((Kept3.refl x a b w).set x 0 (.int .i32 1) (by simp)).trans HX1.out.1).below (by simp) HB2.out).below (Nat.le_trans (by simp) (Nat.le_trans HX1.out.2.2.2.1 HB2.out.size)) hb3)
  clear e3 f3 hb3 hx1 hx2 c3 h0 z0
  go_wp2
  refine leaves_cons (f := 137) (args := #[.pointer (some ⟨x, 0, none⟩)]) (by simp) (by simp [go_sem]) ?_
  refine (unlock_deferred Tryz.muLib ⟨x, 0, none⟩ .returning _ ?_ ?_).mono ?_
  · exact (World.cell?_setCell_other _ _ _ _ (by simp)).trans ((World.cell?_setCell_other _ _ _ _ (by simp)).trans ((World.cell?_setCell_other _ _ _ _ (by simp)).trans k0))
  · simp [y0]
  rintro e u' w'' ⟨rfl, rfl, rfl⟩
  exact ⟨_, results_tmp rfl _ _ _, rfl, ((((HB3.out.set x 2 _ (by simp)).set x 3 _ (by simp)).set x 4 _ (by simp)).set x 0 _ (by simp))⟩
end Go.Proofs.YtlfmgidpdmmpkaaGreatDoor

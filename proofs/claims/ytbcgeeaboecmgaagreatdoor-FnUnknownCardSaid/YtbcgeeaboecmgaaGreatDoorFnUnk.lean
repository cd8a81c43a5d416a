/- The law on the unknown value answers true at every input. -/
import Derived.Test.YtbcgeeaboecmgaaGreatDoorUnkV
import Derived.Test.YtbcgeeaboecmgaaGreatDoorAlive
namespace Go.Proofs.YtbcgeeaboecmgaaGreatDoor
open Go Go.RowKit Go.Proofs.YtbcgeeaboecmgaaGreatDoorW.PrintWords Ps
set_option linter.unusedVariables false
set_option linter.unusedSimpArgs false

theorem made_u (W : World) : Calls Tryz.prog 13 #[.agg #[.int .i64 0, .bool false, .string ⟨#[]⟩, .bool false, .slice none 0 0, .slice none 0 0, .bool false, .slice none 0 0, .slice none 0 0]] W (MadeR (· = unkV) W) := by
  go_enter Tryz.func13, Tryz.ntmps13
  go_wp2
  go_ret
  exact ⟨_, rfl, rfl, by repeat (first | with_reducible exact Below.refl _ _ | with_reducible refine below_alloc ?_ _)⟩
abbrev zV : Value := .agg #[.int .i64 0, .bool false, .string ⟨#[]⟩, .bool false, .slice none 0 0, .slice none 0 0, .bool false, .slice none 0 0, .slice none 0 0]
def CallB (f : FuncId) (args : Array Value) (w : World) (v : Value) : Prop := ∀ W, Below w.heap.size w W → Calls Tryz.prog f args W fun e w' => e = .returned v ∧ Below W.heap.size W w'
set_option maxRecDepth 100000 in
set_option maxHeartbeats 2000000 in
theorem fnUnknown_any (op kind n : Int) (left : Bool) (o0 : 0 ≤ op) (o1 : op < 256) (h0 : -9223372036854775808 ≤ n) (h1 : n < 9223372036854775808) (w : World) :
    Calls Tryz.prog 3 #[.int .u8 op, .int .u8 kind, .int .i64 n, .bool left] w fun e w' => e = .returned (.bool true) ∧ Below w.heap.size w w' := by
  have HU := Aside0.mk (fun W => unknown_any kind n h0 h1 W)
  have ho12 : Aside0 (0 ≤ wrap64 (op.tmod 12) ∧ wrap64 (op.tmod 12) < 12 ∧ 0 ≤ op.tmod 12 ∧ op.tmod 12 < 12) := by
    rw [Int.tmod_eq_emod_of_nonneg o0, w64 (by omega) (by omega)]; exact ⟨by omega, by omega, by omega, by omega⟩
  have ho6 : Aside0 (0 ≤ wrap64 (op.tmod 6) ∧ wrap64 (op.tmod 6) < 6 ∧ 0 ≤ op.tmod 6 ∧ op.tmod 6 < 6) := by
    rw [Int.tmod_eq_emod_of_nonneg o0, w64 (by omega) (by omega)]; exact ⟨by omega, by omega, by omega, by omega⟩
  clear o0 o1 h0 h1
  cases left
  · go_enter Tryz.func3, Tryz.ntmps3
    go_wp2_with fail
    refine (HU.out _).mono ?_
    rintro e w1 ⟨k, t, s, b1, A1, n1, c1, B1, m1, d1, b2, A2, n2, c2, B2, m2, d2, rfl, hb, hm⟩
    have HX := Aside0.mk (And.intro hb hm)
    clear hb hm
    have HT : Aside0 (TC w1 #[.int .i64 0, .bool false, .string ⟨#[]⟩, .bool false, .slice none 0 0, .slice none 0 0, .bool false, .slice none 0 0, .slice none 0 0] #[.int .i64 k, .bool t, .string s, .bool b1, .slice A1 n1 c1, .slice B1 m1 d1, .bool b2, .slice A2 n2 c2, .slice B2 m2 d2] ((w1.alloc (.cells #[.int .i64 0, .bool false, .string ⟨#[]⟩, .bool false, .slice none 0 0, .slice none 0 0, .bool false, .slice none 0 0, .slice none 0 0] 26)).alloc (.cells #[.int .i64 k, .bool t, .string s, .bool b1, .slice A1 n1 c1, .slice B1 m1 d1, .bool b2, .slice A2 n2 c2, .slice B2 m2 d2] 26))) :=
      ⟨below_alloc (below_alloc (Below.refl _ _) _) _, by simp, fun i => (ca (by simp)).trans (cn rfl), fun i => cn (by simp)⟩
    have HBn := Aside0.mk (fun (W : World) (hW : Below w1.heap.size w1 W) => binary_gen (wrap64 (op.tmod 12)) ho12.out.1 ho12.out.2.1 _ _ _ _ _ _ _ _ _ _ _ _ _ _ _ _ _ _ (· = unkV) Un W (fun W' _ => made_u W') (fun W' hW' => HX.out.2 W' (hW.trans (hW'.mono hW.size))) (fun u v hu hv W' => by rw [show u = unkV from hu]; exact hv.right W'))
    have HCm := Aside0.mk (fun (W : World) (hW : Below w1.heap.size w1 W) => compare_gen (wrap64 (op.tmod 6)) ho6.out.1 ho6.out.2.1 _ _ _ _ _ _ _ _ _ _ _ _ _ _ _ _ _ _ (· = unkV) Un W (fun W' _ => made_u W') (fun W' hW' => HX.out.2 W' (hW.trans (hW'.mono hW.size))) (fun u v hu hv W' => by rw [show u = unkV from hu]; exact hv.right W'))
    have fk : ∀ w, (Instr.field 26 toldU 0).run Tryz.prog w = .ok (.int .i64 0) w := fun _ => by kernel_rfl
    go_wp2_with fail
    refine (HBn.out _ HT.out.below).mono ?_
    rintro e w2 ⟨rfl, hb2⟩
    have HT2 : Aside0 (TC w1 #[.int .i64 0, .bool false, .string ⟨#[]⟩, .bool false, .slice none 0 0, .slice none 0 0, .bool false, .slice none 0 0, .slice none 0 0] #[.int .i64 k, .bool t, .string s, .bool b1, .slice A1 n1 c1, .slice B1 m1 d1, .bool b2, .slice A2 n2 c2, .slice B2 m2 d2] w2) := ⟨HT.out.step hb2⟩
    clear hb2 HT
    obtain ⟨a0, a1, a2, a3, a4, a5, a6, a7, a8, y0, y1, y2, y3, y4, y5, y6, y7, y8, -⟩ := C18.mk HT2.out
    go_wp2_with fail
    refine (HCm.out _ HT2.out.below).mono ?_
    rintro e w3 ⟨rfl, hb3⟩
    have B3 : Aside0 (Below w.heap.size w w3) := ⟨HX.out.1.trans ((HT2.out.below.trans (hb3.mono HT2.out.below.size)).mono HX.out.1.size)⟩
    clear hb3 a0 a1 a2 a3 a4 a5 a6 a7 a8 y0 y1 y2 y3 y4 y5 y6 y7 y8 HT2 HX HBn HCm
    go_wp2_with fail
    refine (alive_any _).mono ?_
    rintro e w4 ⟨rfl, hb4⟩
    have B4 : Aside0 (Below w.heap.size w w4) := ⟨B3.out.trans (hb4.mono B3.out.size)⟩
    clear hb4 B3
    go_wp2
    go_ret
    exact ⟨rfl, B4.out⟩
  · go_enter Tryz.func3, Tryz.ntmps3
    go_wp2_with fail
    refine (HU.out _).mono ?_
    rintro e w1 ⟨k, t, s, b1, A1, n1, c1, B1, m1, d1, b2, A2, n2, c2, B2, m2, d2, rfl, hb, hm⟩
    have HX := Aside0.mk (And.intro hb hm)
    clear hb hm
    have HT : Aside0 (TC w1 #[.int .i64 k, .bool t, .string s, .bool b1, .slice A1 n1 c1, .slice B1 m1 d1, .bool b2, .slice A2 n2 c2, .slice B2 m2 d2] #[.int .i64 0, .bool false, .string ⟨#[]⟩, .bool false, .slice none 0 0, .slice none 0 0, .bool false, .slice none 0 0, .slice none 0 0] ((w1.alloc (.cells #[.int .i64 k, .bool t, .string s, .bool b1, .slice A1 n1 c1, .slice B1 m1 d1, .bool b2, .slice A2 n2 c2, .slice B2 m2 d2] 26)).alloc (.cells #[.int .i64 0, .bool false, .string ⟨#[]⟩, .bool false, .slice none 0 0, .slice none 0 0, .bool false, .slice none 0 0, .slice none 0 0] 26))) :=
      ⟨below_alloc (below_alloc (Below.refl _ _) _) _, by simp, fun i => (ca (by simp)).trans (cn rfl), fun i => cn (by simp)⟩
    have HBn := Aside0.mk (fun (W : World) (hW : Below w1.heap.size w1 W) => binary_gen (wrap64 (op.tmod 12)) ho12.out.1 ho12.out.2.1 _ _ _ _ _ _ _ _ _ _ _ _ _ _ _ _ _ _ Un (· = unkV) W (fun W' hW' => HX.out.2 W' (hW.trans (hW'.mono hW.size))) (fun W' _ => made_u W') (fun u v hu hv W' => by rw [show v = unkV from hv]; exact hu.left W'))
    have HCm := Aside0.mk (fun (W : World) (hW : Below w1.heap.size w1 W) => compare_gen (wrap64 (op.tmod 6)) ho6.out.1 ho6.out.2.1 _ _ _ _ _ _ _ _ _ _ _ _ _ _ _ _ _ _ Un (· = unkV) W (fun W' hW' => HX.out.2 W' (hW.trans (hW'.mono hW.size))) (fun W' _ => made_u W') (fun u v hu hv W' => by rw [show v = unkV from hv]; exact hu.left W'))
    have fk : ∀ w, (Instr.field 26 toldU 0).run Tryz.prog w = .ok (.int .i64 0) w := fun _ => by kernel_rfl
    go_wp2_with fail
    refine (HBn.out _ HT.out.below).mono ?_
    rintro e w2 ⟨rfl, hb2⟩
    have HT2 : Aside0 (TC w1 #[.int .i64 k, .bool t, .string s, .bool b1, .slice A1 n1 c1, .slice B1 m1 d1, .bool b2, .slice A2 n2 c2, .slice B2 m2 d2] #[.int .i64 0, .bool false, .string ⟨#[]⟩, .bool false, .slice none 0 0, .slice none 0 0, .bool false, .slice none 0 0, .slice none 0 0] w2) := ⟨HT.out.step hb2⟩
    clear hb2 HT
    obtain ⟨a0, a1, a2, a3, a4, a5, a6, a7, a8, y0, y1, y2, y3, y4, y5, y6, y7, y8, -⟩ := C18.mk HT2.out
    go_wp2_with fail
    refine (HCm.out _ HT2.out.below).mono ?_
    rintro e w3 ⟨rfl, hb3⟩
    have B3 : Aside0 (Below w.heap.size w w3) := ⟨HX.out.1.trans ((HT2.out.below.trans (hb3.mono HT2.out.below.size)).mono HX.out.1.size)⟩
    clear hb3 a0 a1 a2 a3 a4 a5 a6 a7 a8 y0 y1 y2 y3 y4 y5 y6 y7 y8 HT2 HX HBn HCm
    go_wp2_with fail
    refine (alive_any _).mono ?_
    rintro e w4 ⟨rfl, hb4⟩
    have B4 : Aside0 (Below w.heap.size w w4) := ⟨B3.out.trans (hb4.mono B3.out.size)⟩
    clear hb4 B3
    go_wp2
    go_ret
    exact ⟨rfl, B4.out⟩
theorem fnUnknown_row (op kind n : Int) (left : Bool) (o0 : 0 ≤ op) (o1 : op ≤ 255) (k0 : 0 ≤ kind) (k1 : kind ≤ 255) (h0 : -9223372036854775808 ≤ n) (h1 : n ≤ 9223372036854775807) (w : World) :
    Calls Tryz.prog 3 #[.int .u8 op, .int .u8 kind, .int .i64 n, .bool left] w fun e w' => e = .returned (.bool true) ∧ Below w.heap.size w w' :=
  fnUnknown_any op kind n left o0 (by omega) h0 (by omega) w
end Go.Proofs.YtbcgeeaboecmgaaGreatDoor

/- Unquote, MakeFromLiteral of a text, told of a text, Literal over it. -/
import Derived.Test.YtlfmgidpdmmpkaaGreatDoorUnq
import Derived.Test.YtlfmgidpdmmpkaaGreatDoorTexts
import Derived.Test.YtlfmgidpdmmpkaaGreatDoorTold
namespace Go.Proofs.YtlfmgidpdmmpkaaGreatDoor
open Go Go.RowKit Go.Proofs.YtlfmgidpdmmpkaaGreatDoorW.PrintWords Ps Go.MuLone
set_option linter.unusedVariables false
set_option linter.unusedSimpArgs false

def unkVal : Value := .iface 72 (.agg #[])
def strJ (s : ByteArray) : Value := .agg #[.int .i64 2, .bool false, .string s, .bool false, .slice none 0 0, .slice none 0 0, .bool false, .slice none 0 0, .slice none 0 0]
abbrev uqE (t : TypeId) (v : Value) : Value := .tuple #[.string ⟨#[]⟩, .iface t v]
set_option maxRecDepth 100000 in
set_option maxHeartbeats 1000000 in
theorem unquote_err (s : ByteArray) (t : TypeId) (v : Value) (w : World) (hE : ErrAt w t v) (hU : Calls Tryz.prog 93 #[.string s, .bool true] w fun e w' => e = .returned (unqErr s t v) ∧ Below w.heap.size w w') :
    Calls Tryz.prog 28 #[.string s] w fun e w' => e = .returned (uqE t v) ∧ Below w.heap.size w w' := by
  have HU := Aside0.mk hU
  have HE := Aside0.mk (And.intro (World.block_lt_of_cell? w _ hE) hE)
  clear hU hE
  rcases Nat.eq_zero_or_pos s.size with h | h
  · have h3 : (s.size : Int) ≤ 0 := by omega
    clear h
    go_enter Tryz.func28, Tryz.ntmps28
    go_wp2_with fail
    refine HU.out.mono ?_
    rintro e w1 ⟨rfl, hb⟩
    have HB := Aside0.mk hb
    clear hb
    go_wp2
    go_ret2
    exact ⟨rfl, HB.out⟩
  · have h3 : 0 < (s.size : Int) := by omega
    clear h
    go_enter Tryz.func28, Tryz.ntmps28
    go_wp2_with fail
    refine HU.out.mono ?_
    rintro e w1 ⟨rfl, hb⟩
    have HB := Aside0.mk hb
    have hE1 : w1.cell? ⟨0, 0, none⟩ = some (.iface t v) := (HB.out.cell (p := ⟨0, 0, none⟩) HE.out.1).trans HE.out.2
    clear hb
    go_wp2
    go_region
    go_wp2
    go_ret2
    exact ⟨rfl, HB.out.drew⟩
set_option maxRecDepth 100000 in
set_option maxHeartbeats 1000000 in
theorem unquote_rem (s out rem : ByteArray) (hr : 0 < rem.size) (t : TypeId) (v : Value) (w : World) (hE : ErrAt w t v) (hU : Calls Tryz.prog 93 #[.string s, .bool true] w fun e w' => e = .returned (unqOk out rem) ∧ Below w.heap.size w w') :
    Calls Tryz.prog 28 #[.string s] w fun e w' => e = .returned (uqE t v) ∧ Below w.heap.size w w' := by
  have HU := Aside0.mk hU
  have HE := Aside0.mk (And.intro (World.block_lt_of_cell? w _ hE) hE)
  have h3 : 0 < (rem.size : Int) := by omega
  clear hU hE hr
  go_enter Tryz.func28, Tryz.ntmps28
  go_wp2_with fail
  refine HU.out.mono ?_
  rintro e w1 ⟨rfl, hb⟩
  have HB := Aside0.mk hb
  have hE1 : w1.cell? ⟨0, 0, none⟩ = some (.iface t v) := (HB.out.cell (p := ⟨0, 0, none⟩) HE.out.1).trans HE.out.2
  clear hb
  go_wp2
  go_region
  go_wp2
  go_ret2
  exact ⟨rfl, HB.out.drew⟩
set_option maxRecDepth 100000 in
set_option maxHeartbeats 1000000 in
theorem unquote_ok (s out rem : ByteArray) (hr : rem.size = 0) (w : World) (hU : Calls Tryz.prog 93 #[.string s, .bool true] w fun e w' => e = .returned (unqOk out rem) ∧ Below w.heap.size w w') :
    Calls Tryz.prog 28 #[.string s] w fun e w' => e = .returned (.tuple #[.string out, .nilIface]) ∧ Below w.heap.size w w' := by
  have HU := Aside0.mk hU
  have h3 : (rem.size : Int) ≤ 0 := by omega
  clear hU hr
  go_enter Tryz.func28, Tryz.ntmps28
  go_wp2_with fail
  refine HU.out.mono ?_
  rintro e w1 ⟨rfl, hb⟩
  have HB := Aside0.mk hb
  clear hb
  go_wp2
  go_ret2
  exact ⟨rfl, HB.out⟩
set_option maxRecDepth 100000 in
set_option maxHeartbeats 1000000 in
theorem mfl_str_no (s : ByteArray) (t : TypeId) (v : Value) (w : World) (hU : Calls Tryz.prog 28 #[.string s] w fun e w' => e = .returned (uqE t v) ∧ Below w.heap.size w w') :
    Calls Tryz.prog 9 #[.string s, .int .i64 9, .int .u64 0] w fun e w' => e = .returned unkVal ∧ Below w.heap.size w w' := by
  have HU := Aside0.mk hU
  clear hU
  go_enter Tryz.func9, Tryz.ntmps9
  go_wp2_with fail
  refine HU.out.mono ?_
  rintro e w1 ⟨rfl, hb⟩
  have HB := Aside0.mk hb
  clear hb
  go_wp2
  go_ret
  exact ⟨rfl, HB.out⟩
set_option maxRecDepth 100000 in
set_option maxHeartbeats 1000000 in
theorem mfl_str_ok (s out : ByteArray) (w : World) (hU : Calls Tryz.prog 28 #[.string s] w fun e w' => e = .returned (.tuple #[.string out, .nilIface]) ∧ Below w.heap.size w w') :
    Calls Tryz.prog 9 #[.string s, .int .i64 9, .int .u64 0] w fun e w' => ∃ g, e = .returned (strV g) ∧ w.heap.size ≤ g ∧ StrAt w' g out ∧ Below w.heap.size w w' := by
  have HU := Aside0.mk hU
  clear hU
  go_enter Tryz.func9, Tryz.ntmps9
  go_wp2_with fail
  refine HU.out.mono ?_
  rintro e w1 ⟨rfl, hb⟩
  have HB := Aside0.mk hb
  clear hb
  go_wp2_with fail
  refine (mkstr out _).mono ?_
  rintro e w2 ⟨g, rfl, hg, hs, hb⟩
  have HF := Aside0.mk (show w.heap.size ≤ g ∧ StrAt w2 g out ∧ Below w.heap.size w w2 from ⟨Nat.le_trans HB.out.size hg, hs, HB.out.trans (hb.mono HB.out.size)⟩)
  clear hg hs hb
  go_wp2
  go_ret
  exact ⟨_, rfl, HF.out⟩
set_option maxRecDepth 100000 in
set_option maxHeartbeats 1000000 in
theorem stringVal_any (b : Nat) (s : ByteArray) (w : World) (h : StrAt w b s) :
    Calls Tryz.prog 17 #[strV b] w fun e w' => e = .returned (.string s) ∧ w' = lockW w b := by
  have ta1 : ∀ w, (Instr.typeAssert (strV b) 37 100 true).run Tryz.prog w = .ok (.tuple #[.pointer (some ⟨b, 0, none⟩), .bool true]) w := fun _ => by kernel_rfl
  have HH := Aside0.mk (string_any b s w h)
  clear h
  go_enter Tryz.func17, Tryz.ntmps17
  go_wp2_with fail
  refine HH.out.mono ?_
  rintro e w1 ⟨rfl, rfl⟩
  go_wp2
  go_ret
  exact ⟨rfl, rfl⟩
theorem lock_cell {X : World} {b b' i : Nat} (h : b ≠ b') : (lockW X b).cell? ⟨b', i, none⟩ = X.cell? ⟨b', i, none⟩ := by
  unfold lockW
  exact (World.cell?_setCell_other _ _ _ _ (by simp [h])).trans (World.cell?_setCell_other _ _ _ _ (by simp [h]))
theorem lock_frozen {X : World} {b : Nat} {p : Addr} : (lockW X b).frozen? p = X.frozen? p := by unfold lockW; simp
theorem lock_size {X : World} {b : Nat} : (lockW X b).heap.size = X.heap.size := by unfold lockW; simp
set_option maxRecDepth 100000 in
set_option maxHeartbeats 2000000 in
theorem told_str (b : Nat) (s : ByteArray) (B : Nat) (w0 w : World) (hb : Below B w0 w) (hB : B ≤ b) (h : StrAt w b s) :
    Calls Tryz.prog 8 #[strV b] w fun e w' => e = .returned (strJ s) ∧ Below B w0 w' := by
  have hm : ∀ w, (method 467 100 (.pointer (some ⟨b, 0, none⟩)) "Kind").run Tryz.prog w = .ok (377, .pointer (some ⟨b, 0, none⟩)) w := fun _ => by kernel_rfl
  have HH := Aside0.mk (fun W (hb2 : Below w.heap.size w W) => stringVal_any b s W (h.below hb2))
  have hBw : B ≤ w.heap.size := Nat.le_trans hB (Nat.le_of_lt h.lt)
  have HB := Aside0.mk (fun (o o' : Obj) => lockW_below ((hb.alloc hBw o).alloc (by simp; omega) o') hB)
  have hlt := h.lt
  clear h hb
  go_enter Tryz.func8, Tryz.ntmps8
  go_wp2_with (first | (go_at_call 377; go_in))
  refine (HH.out _ (below_alloc (below_alloc (Below.refl _ _) _) _)).mono ?_
  rintro e w1 ⟨rfl, hw1⟩
  have HB1 := Aside0.mk (show Below B w0 w1 by rw [hw1]; exact HB.out _ _)
  have e0 : ∀ i, w1.cell? ⟨w.heap.size, i, none⟩ = (#[.int .i64 0, .bool false, .string { data := #[] }, .bool false, .slice none 0 0, .slice none 0 0, .bool false, .slice none 0 0, .slice none 0 0] : Array Value)[i]? := fun i => by rw [hw1]; exact (lock_cell (by omega)).trans ((ca (by simp only [World.size_alloc]; omega)).trans (cn rfl))
  have e1 : ∀ i, w1.cell? ⟨w.heap.size + 1, i, none⟩ = (#[.int .i64 2, .bool false, .string { data := #[] }, .bool false, .slice none 0 0, .slice none 0 0, .bool false, .slice none 0 0, .slice none 0 0] : Array Value)[i]? := fun i => by rw [hw1]; exact (lock_cell (by omega)).trans (cn (by simp))
  have f0 : ∀ i, w1.frozen? ⟨w.heap.size, i, none⟩ = false := fun i => by rw [hw1]; exact lock_frozen.trans ((fa (by simp only [World.size_alloc]; omega)).trans (fn rfl))
  have f1 : ∀ i, w1.frozen? ⟨w.heap.size + 1, i, none⟩ = false := fun i => by rw [hw1]; exact lock_frozen.trans (fn (by simp))
  have hz : w.heap.size + 1 + 1 ≤ w1.heap.size := by rw [hw1, lock_size]; simp
  clear hw1 HB HH
  go_wp2
  refine bodyPost_ret (v := strJ s) (by simp [strJ, results, Tryz.results8, go_sem, e0, e1]) rfl ⟨rfl, ?_⟩
  repeat refine Below.setCell ?_ (by simp only []; omega) _
  exact HB1.out
set_option maxRecDepth 100000 in
set_option maxHeartbeats 4000000 in
theorem literal_unknown4 (s : ByteArray) (w : World) (hM : ∀ W, Below w.heap.size w W → Calls Tryz.prog 9 #[.string s, .int .i64 9, .int .u64 0] W fun e w' => e = .returned unkVal ∧ Below W.heap.size W w') :
    Calls Tryz.prog 4 #[.string s, .int .i64 4] w fun e w' => e = .returned toldUnknown ∧ Below w.heap.size w w' := by
  have HM := Aside0.mk hM
  clear hM
  go_enter Tryz.func4, Tryz.ntmps4
  go_wp2_with fail
  refine (HM.out _ (below_alloc (below_alloc (Below.refl _ _) _) _)).mono ?_
  rintro e w1 ⟨rfl, hb1⟩
  have HB1 := Aside0.mk (show Below w.heap.size w w1 from (below_alloc (below_alloc (Below.refl _ _) _) _).trans (hb1.mono (by simp <;> omega)))
  have hz1 := hb1.size
  simp only [World.size_alloc] at hz1
  have e1 : ∀ i, w1.cell? ⟨w.heap.size, i, none⟩ = (#[.int .i64 0, .bool false, .string { data := #[] }, .bool false, .slice none 0 0, .slice none 0 0, .bool false, .slice none 0 0, .slice none 0 0] : Array Value)[i]? := fun i => (hb1.cell (p := ⟨w.heap.size, i, none⟩) (by simp only [World.size_alloc]; omega)).trans ((ca (by simp)).trans (cn rfl))
  have f1 : ∀ i, w1.frozen? ⟨w.heap.size, i, none⟩ = false := fun i => (hb1.frozen (p := ⟨w.heap.size, i, none⟩) (by simp only [World.size_alloc]; omega)).trans ((fa (by simp)).trans (fn rfl))
  have HE1 := Aside0.mk e1
  have HF1 := Aside0.mk f1
  clear hb1 e1 f1
  go_wp2_with fail
  refine (told_unknown w1).mono ?_
  rintro e w2 ⟨rfl, hb2⟩
  have HB2 := Aside0.mk (HB1.out.trans (hb2.mono (by omega)))
  have hz2 := hb2.size
  have e2 : ∀ i, w2.cell? ⟨w.heap.size, i, none⟩ = (#[.int .i64 0, .bool false, .string { data := #[] }, .bool false, .slice none 0 0, .slice none 0 0, .bool false, .slice none 0 0, .slice none 0 0] : Array Value)[i]? := fun i => (hb2.cell (p := ⟨w.heap.size, i, none⟩) (by simp only []; omega)).trans (HE1.out i)
  have f2 : ∀ i, w2.frozen? ⟨w.heap.size, i, none⟩ = false := fun i => (hb2.frozen (p := ⟨w.heap.size, i, none⟩) (by simp only []; omega)).trans (HF1.out i)
  clear hb2 HE1 HF1
  unfold toldUnknown
  go_wp2
  refine bodyPost_ret (v := toldUnknown) (by simp [toldUnknown, results, Tryz.results4, go_sem, e2, f2]) rfl ⟨rfl, ?_⟩
  exact (((((((((HB2.out.setCell (by simp) _).setCell (by simp) _).setCell (by simp) _).setCell (by simp) _).setCell (by simp) _).setCell (by simp) _).setCell (by simp) _).setCell (by simp) _).setCell (by simp) _)
set_option maxRecDepth 100000 in
set_option maxHeartbeats 4000000 in
theorem literal_str (s out : ByteArray) (w : World) (hM : ∀ W, Below w.heap.size w W → Calls Tryz.prog 9 #[.string s, .int .i64 9, .int .u64 0] W fun e w' => ∃ g, e = .returned (strV g) ∧ W.heap.size ≤ g ∧ StrAt w' g out ∧ Below W.heap.size W w') :
    Calls Tryz.prog 4 #[.string s, .int .i64 4] w fun e w' => e = .returned (strJ out) ∧ Below w.heap.size w w' := by
  have HM := Aside0.mk hM
  clear hM
  go_enter Tryz.func4, Tryz.ntmps4
  go_wp2_with fail
  refine (HM.out _ (below_alloc (below_alloc (Below.refl _ _) _) _)).mono ?_
  rintro e w1 ⟨g, rfl, hg, hs, hb1⟩
  have hg2 : w.heap.size + 2 ≤ g := by simp only [World.size_alloc] at hg; omega
  have HS := Aside0.mk hs
  clear hg hs
  have HB1 := Aside0.mk (show Below w.heap.size w w1 from (below_alloc (below_alloc (Below.refl _ _) _) _).trans (hb1.mono (by simp <;> omega)))
  have hz1 := hb1.size
  simp only [World.size_alloc] at hz1
  have e1 : ∀ i, w1.cell? ⟨w.heap.size, i, none⟩ = (#[.int .i64 0, .bool false, .string { data := #[] }, .bool false, .slice none 0 0, .slice none 0 0, .bool false, .slice none 0 0, .slice none 0 0] : Array Value)[i]? := fun i => (hb1.cell (p := ⟨w.heap.size, i, none⟩) (by simp only [World.size_alloc]; omega)).trans ((ca (by simp)).trans (cn rfl))
  have f1 : ∀ i, w1.frozen? ⟨w.heap.size, i, none⟩ = false := fun i => (hb1.frozen (p := ⟨w.heap.size, i, none⟩) (by simp only [World.size_alloc]; omega)).trans ((fa (by simp)).trans (fn rfl))
  have HE1 := Aside0.mk e1
  have HF1 := Aside0.mk f1
  clear hb1 e1 f1
  go_wp2_with fail
  refine (told_str g out (w.heap.size + 2) w1 w1 (Below.refl _ _) hg2 HS.out).mono ?_
  rintro e w2 ⟨rfl, hb2⟩
  have HB2 := Aside0.mk (HB1.out.trans (hb2.mono (by omega)))
  have hz2 := hb2.size
  have e2 : ∀ i, w2.cell? ⟨w.heap.size, i, none⟩ = (#[.int .i64 0, .bool false, .string { data := #[] }, .bool false, .slice none 0 0, .slice none 0 0, .bool false, .slice none 0 0, .slice none 0 0] : Array Value)[i]? := fun i => (hb2.cell (p := ⟨w.heap.size, i, none⟩) (by simp only []; omega)).trans (HE1.out i)
  have f2 : ∀ i, w2.frozen? ⟨w.heap.size, i, none⟩ = false := fun i => (hb2.frozen (p := ⟨w.heap.size, i, none⟩) (by simp only []; omega)).trans (HF1.out i)
  clear hb2 HE1 HF1
  unfold strJ
  go_wp2
  refine bodyPost_ret (v := strJ out) (by simp [strJ, results, Tryz.results4, go_sem, e2, f2]) rfl ⟨rfl, ?_⟩
  exact (((((((((HB2.out.setCell (by simp) _).setCell (by simp) _).setCell (by simp) _).setCell (by simp) _).setCell (by simp) _).setCell (by simp) _).setCell (by simp) _).setCell (by simp) _).setCell (by simp) _)
end Go.Proofs.YtlfmgidpdmmpkaaGreatDoor

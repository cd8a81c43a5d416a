/- impl.Binary of two texts: their sum. -/
import Derived.Test.YtlfmgidpdmmpkaaGreatDoorRev
import Derived.Test.YtlfmgidpdmmpkaaGreatDoorTexts
import Derived.Test.YtlfmgidpdmmpkaaGreatDoorUnqAny
import Derived.Deep.QuietTactic
import Derived.BigQuiet
import Derived.Deep.RegionWith
namespace Go.Proofs.YtlfmgidpdmmpkaaGreatDoor
open Go Go.RowKit Go.Proofs.YtlfmgidpdmmpkaaGreatDoorW.PrintWords Go.MuLone
set_option linter.unusedVariables false
set_option linter.unusedSimpArgs false

set_option maxRecDepth 100000 in
set_option maxHeartbeats 1000000 in
theorem stringVal_node (x a b : Nat) (s t : ByteArray) (hl : s.size + t.size ≤ 4096) (w : World) (h : NodeAt w x a b s t) (cx : CellsAt w x) (cA : CellsAt w a) :
    Calls Tryz.prog 17 #[strV x] w (SRes s t x a b w) := by
  have ta1 : ∀ w, (Instr.typeAssert (strV x) 37 100 true).run Tryz.prog w = .ok (.tuple #[.pointer (some ⟨x, 0, none⟩), .bool true]) w := fun _ => by kernel_rfl
  have HH := Aside0.mk (string_node x a b s t hl w h cx cA)
  clear h cx cA hl
  go_enter Tryz.func17, Tryz.ntmps17
  go_wp2_with fail
  refine HH.out.mono ?_
  rintro e w1 ⟨rfl, hb⟩
  have HB := Aside0.mk hb
  clear hb
  go_wp2
  go_ret
  exact ⟨rfl, HB.out⟩
theorem NodeAt.below {w W : World} {x a b : Nat} {s t : ByteArray} (h : NodeAt w x a b s t) (hb : Below w.heap.size w W) : NodeAt W x a b s t := by
  have hx : x < w.heap.size := World.block_lt_of_cell? w _ h.c0
  exact ⟨(hb.cell (p := ⟨x, 0, none⟩) hx).trans h.c0, (hb.cell (p := ⟨x, 2, none⟩) hx).trans h.c2, (hb.cell (p := ⟨x, 3, none⟩) hx).trans h.c3, (hb.cell (p := ⟨x, 4, none⟩) hx).trans h.c4, (hb.frozen (p := ⟨x, 0, none⟩) hx).trans h.z0, (hb.frozen (p := ⟨x, 2, none⟩) hx).trans h.z2, (hb.frozen (p := ⟨x, 3, none⟩) hx).trans h.z3, (hb.frozen (p := ⟨x, 4, none⟩) hx).trans h.z4, h.xa, h.xb, h.ab, h.sa.below hb, h.sb.below hb⟩
set_option maxRecDepth 100000 in
set_option maxHeartbeats 2000000 in
theorem told_node (x a b : Nat) (s t : ByteArray) (hl : s.size + t.size ≤ 4096) (B : Nat) (w0 w : World) (h : NodeAt w x a b s t) (cx : CellsAt w x) (cA : CellsAt w a) (hb : Below B w0 w) (hB : B ≤ x) (ha : B ≤ a) (hbb : B ≤ b) :
    Calls Tryz.prog 8 #[strV x] w fun e w' => e = .returned (strJ (s ++ t)) ∧ Below B w0 w' := by
  have hm : ∀ w, (method 467 100 (.pointer (some ⟨x, 0, none⟩)) "Kind").run Tryz.prog w = .ok (377, .pointer (some ⟨x, 0, none⟩)) w := fun _ => by kernel_rfl
  have hlt : x < w.heap.size := World.block_lt_of_cell? w _ h.c0
  have HH := Aside0.mk (fun (W : World) (hb2 : Below w.heap.size w W) => stringVal_node x a b s t hl W (h.below hb2) (cx.below hb2 hlt) (cA.below hb2 h.sa.lt))
  have hBw : B ≤ w.heap.size := Nat.le_trans hB (Nat.le_of_lt hlt)
  have HB := Aside0.mk (fun (o o' : Obj) => (hb.alloc hBw o).alloc (by simp; omega) o')
  have HL := Aside0.mk (show a < w.heap.size ∧ b < w.heap.size ∧ B ≤ x ∧ B ≤ a ∧ B ≤ b from ⟨h.sa.lt, h.sb.lt, hB, ha, hbb⟩)
  clear h hb cx cA hl hB ha hbb
  go_enter Tryz.func8, Tryz.ntmps8
  go_wp2_with (first | (go_at_call 377; go_in))
  refine (HH.out _ (below_alloc (below_alloc (Below.refl _ _) _) _)).mono ?_
  rintro e w1 ⟨rfl, hw1⟩
  obtain ⟨la, lb, hB, ha, hbb⟩ := HL.out
  have HB1 := Aside0.mk (show Below B w0 w1 from hw1.base (HB.out _ _) hB ha hbb (by simp <;> omega))
  have e0 : ∀ i, w1.cell? ⟨w.heap.size, i, none⟩ = (#[.int .i64 0, .bool false, .string { data := #[] }, .bool false, .slice none 0 0, .slice none 0 0, .bool false, .slice none 0 0, .slice none 0 0] : Array Value)[i]? := fun i => (hw1.cell (by simp <;> omega) (by omega) (by omega) (by omega)).trans ((ca (by simp only [World.size_alloc]; omega)).trans (cn rfl))
  have e1 : ∀ i, w1.cell? ⟨w.heap.size + 1, i, none⟩ = (#[.int .i64 2, .bool false, .string { data := #[] }, .bool false, .slice none 0 0, .slice none 0 0, .bool false, .slice none 0 0, .slice none 0 0] : Array Value)[i]? := fun i => (hw1.cell (by simp <;> omega) (by omega) (by omega) (by omega)).trans (cn (by simp))
  have f0 : ∀ i, w1.frozen? ⟨w.heap.size, i, none⟩ = false := fun i => (hw1.frozen (by simp <;> omega) (by omega) (by omega) (by omega)).trans ((fa (by simp only [World.size_alloc]; omega)).trans (fn rfl))
  have f1 : ∀ i, w1.frozen? ⟨w.heap.size + 1, i, none⟩ = false := fun i => (hw1.frozen (by simp <;> omega) (by omega) (by omega) (by omega)).trans (fn (by simp))
  have hz : w.heap.size + 1 + 1 ≤ w1.heap.size := by have := hw1.size; simp at this; omega
  clear hw1 HB HH HL
  go_wp2
  refine bodyPost_ret (v := strJ (s ++ t)) (by simp [strJ, results, Tryz.results8, go_sem, e0, e1]) rfl ⟨rfl, ?_⟩
  repeat refine Below.setCell ?_ (by simp only []; omega) _
  exact HB1.out
/-- MakeString, told of a plain block. -/
def MkS (s : ByteArray) (w : World) (e : Ending) (w' : World) : Prop := ∃ g, e = .returned (strV g) ∧ w.heap.size ≤ g ∧ StrAt w' g s ∧ CellsAt w' g ∧ Below w.heap.size w w'
set_option maxRecDepth 100000 in
set_option maxHeartbeats 1000000 in
theorem mkstr2 (s : ByteArray) (w : World) : Calls Tryz.prog 29 #[.string s] w (MkS s w) := by
  by_cases h0 : s.size = 0
  · have hs : s = ByteArray.empty := by simpa using h0
    have hs : s = { data := #[] } := hs
    subst hs
    go_enter Tryz.func29, Tryz.ntmps29
    go_wp2
    go_ret
    exact ⟨_, rfl, Nat.le_refl _, ⟨cn rfl, cn rfl, cn rfl, cn rfl, fn rfl⟩, ⟨_, _, Go.heap_alloc_new _ _⟩, below_alloc (Below.refl _ _) _⟩
  · have h1 : (s.toList.isEmpty) = false := not_empty (by omega)
    clear h0
    go_enter Tryz.func29, Tryz.ntmps29
    go_wp2
    go_ret
    exact ⟨_, rfl, Nat.le_refl _, ⟨cn rfl, cn rfl, cn rfl, cn rfl, fn rfl⟩, ⟨_, _, Go.heap_alloc_new _ _⟩, below_alloc (Below.refl _ _) _⟩
set_option maxRecDepth 100000 in
set_option maxHeartbeats 1000000 in
theorem made_str2 (s : ByteArray) (w : World) : Calls Tryz.prog 13 #[strI s] w (MkS s w) := by
  go_enter Tryz.func13, Tryz.ntmps13
  go_wp2_with fail
  refine (mkstr2 s _).mono ?_
  rintro e w1 ⟨g, rfl, hg, hs, hc, hb⟩
  have HG := Aside0.mk (And.intro hg hc)
  have HS := Aside0.mk hs
  have HB := Aside0.mk hb
  clear hg hs hb hc
  go_wp2
  go_ret
  have hg := HG.out.1
  simp only [World.size_alloc] at hg
  exact ⟨_, rfl, by omega, HS.out, HG.out.2, (below_alloc (Below.refl _ _) _).trans (HB.out.mono (by simp))⟩
def AddS (a b : Nat) (s t : ByteArray) (w : World) (e : Ending) (w' : World) : Prop := ∃ x, e = .returned (strV x) ∧ w.heap.size ≤ x ∧ NodeAt w' x a b s t ∧ CellsAt w' x ∧ Below w.heap.size w w'
set_option maxRecDepth 100000 in
set_option maxHeartbeats 1000000 in
theorem add_str (a b : Nat) (s t : ByteArray) (w : World) (ab : a ≠ b) (sa : StrAt w a s) (sb : StrAt w b t) :
    Calls Tryz.prog 12 #[strV a, .int .i64 12, strV b] w (AddS a b s t w) := by
  have ta1 : ∀ w, (Instr.typeAssert (strV a) 37 72 true).run Tryz.prog w = .ok (.tuple #[.agg #[], .bool false]) w := fun _ => by kernel_rfl
  have ta2 : ∀ w, (Instr.typeAssert (strV a) 37 79 true).run Tryz.prog w = .ok (.tuple #[.bool false, .bool false]) w := fun _ => by kernel_rfl
  have ta3 : ∀ w, (Instr.typeAssert (strV a) 37 57 true).run Tryz.prog w = .ok (.tuple #[.int .i64 0, .bool false]) w := fun _ => by kernel_rfl
  have ta4 : ∀ w, (Instr.typeAssert (strV a) 37 63 true).run Tryz.prog w = .ok (.tuple #[.agg #[.pointer none], .bool false]) w := fun _ => by kernel_rfl
  have ta5 : ∀ w, (Instr.typeAssert (strV a) 37 90 true).run Tryz.prog w = .ok (.tuple #[.agg #[.pointer none], .bool false]) w := fun _ => by kernel_rfl
  have ta6 : ∀ w, (Instr.typeAssert (strV a) 37 94 true).run Tryz.prog w = .ok (.tuple #[.agg #[.pointer none], .bool false]) w := fun _ => by kernel_rfl
  have ta7 : ∀ w, (Instr.typeAssert (strV a) 37 99 true).run Tryz.prog w = .ok (.tuple #[.agg #[.nilIface, .nilIface], .bool false]) w := fun _ => by kernel_rfl
  have ta8 : ∀ w, (Instr.typeAssert (strV a) 37 100 true).run Tryz.prog w = .ok (.tuple #[.pointer (some ⟨a, 0, none⟩), .bool true]) w := fun _ => by kernel_rfl
  have ta9 : ∀ w, (Instr.typeAssert (strV b) 37 100 false).run Tryz.prog w = .ok (.pointer (some ⟨b, 0, none⟩)) w := fun _ => by kernel_rfl
  have HH := Aside0.mk (And.intro ab (And.intro sa sb))
  clear ab sa sb
  go_enter Tryz.func12, Tryz.ntmps12
  go_wp2
  go_step3
  go_wp2_with (go_at_call 32; (with_reducible refine (match_str _ _ _).mono ?_); rintro e w' ⟨rfl, rfl⟩)
  rw [Exit.noGoto_ret]
  go_ret
  obtain ⟨ab, sa, sb⟩ := HH.out
  have la := sa.lt
  have lb := sb.lt
  have hb := below_alloc (Below.refl w.heap.size w) (.cells #[.int .i32 0, .int .u32 0, .string ⟨#[]⟩, .pointer (some ⟨a, 0, none⟩), .pointer (some ⟨b, 0, none⟩)] 108)
  exact ⟨_, rfl, Nat.le_refl _, ⟨cn rfl, cn rfl, cn rfl, cn rfl, fn rfl, fn rfl, fn rfl, fn rfl, by omega, by omega, ab, sa.below hb, sb.below hb⟩, ⟨_, _, Go.heap_alloc_new _ _⟩, hb⟩
theorem oper0 (w : World) : Calls Tryz.prog 11 #[.int .i64 0] w fun e w' => e = .returned (.tuple #[.int .i64 12, .bool true]) ∧ Below w.heap.size w w' :=
  (Ps.impl_operator.calls 0 12 true w (by decide)).mono fun e w' h => ⟨h.1, h.2⟩
/-- What stands while impl.Binary reckons: two texts in boxes, a box for the result, nothing older turned. -/
structure TB (w : World) (s t : ByteArray) (W : World) : Prop where
  below : Below w.heap.size w W
  hi : w.heap.size + 3 ≤ W.heap.size
  c0 : ∀ i, W.cell? ⟨w.heap.size, i, none⟩ = (#[.int .i64 2, .bool false, .string s, .bool false, .slice none 0 0, .slice none 0 0, .bool false, .slice none 0 0, .slice none 0 0] : Array Value)[i]?
  c1 : ∀ i, W.cell? ⟨w.heap.size + 1, i, none⟩ = (#[.int .i64 2, .bool false, .string t, .bool false, .slice none 0 0, .slice none 0 0, .bool false, .slice none 0 0, .slice none 0 0] : Array Value)[i]?
  c2 : ∀ i, W.cell? ⟨w.heap.size + 2, i, none⟩ = (#[.int .i64 0, .bool false, .string ⟨#[]⟩, .bool false, .slice none 0 0, .slice none 0 0, .bool false, .slice none 0 0, .slice none 0 0] : Array Value)[i]?
  f2 : ∀ i, W.frozen? ⟨w.heap.size + 2, i, none⟩ = false
theorem TB.stepB {w W W' : World} {s t : ByteArray} {B : Nat} (h : TB w s t W) (hB : w.heap.size + 3 ≤ B) (hb : Below B W W') : TB w s t W' :=
  ⟨h.below.trans (hb.mono (by omega)), Nat.le_trans h.hi hb.size, fun i => (hb.cell (p := ⟨w.heap.size, i, none⟩) (by simp only []; omega)).trans (h.c0 i), fun i => (hb.cell (p := ⟨w.heap.size + 1, i, none⟩) (by simp only []; omega)).trans (h.c1 i), fun i => (hb.cell (p := ⟨w.heap.size + 2, i, none⟩) (by simp only []; omega)).trans (h.c2 i), fun i => (hb.frozen (p := ⟨w.heap.size + 2, i, none⟩) (by simp only []; omega)).trans (h.f2 i)⟩
theorem TB.step {w W W' : World} {s t : ByteArray} (h : TB w s t W) (hb : Below W.heap.size W W') : TB w s t W' := h.stepB h.hi hb
theorem TB.drew {w W : World} {s t : ByteArray} (h : TB w s t W) : TB w s t W.drew := h.step (below_drew (Below.refl _ _))
/-- A text at a block that is new since w. -/
def SB (w W : World) (g : Nat) (u : ByteArray) : Prop := StrAt W g u ∧ CellsAt W g ∧ w.heap.size + 3 ≤ g
theorem SB.step {w W W' : World} {g : Nat} {u : ByteArray} (h : SB w W g u) (hb : Below W.heap.size W W') : SB w W' g u := ⟨h.1.below hb, h.2.1.below hb h.1.lt, h.2.2⟩
def TF (w : World) (s t : ByteArray) (W : World) : Prop := W.cell? ⟨w.heap.size, 0, none⟩ = some (.int .i64 2) ∧ W.cell? ⟨w.heap.size, 1, none⟩ = some (.bool false) ∧ W.cell? ⟨w.heap.size, 2, none⟩ = some (.string s) ∧ W.cell? ⟨w.heap.size, 3, none⟩ = some (.bool false) ∧ W.cell? ⟨w.heap.size, 4, none⟩ = some (.slice none 0 0) ∧ W.cell? ⟨w.heap.size, 5, none⟩ = some (.slice none 0 0) ∧ W.cell? ⟨w.heap.size, 6, none⟩ = some (.bool false) ∧ W.cell? ⟨w.heap.size, 7, none⟩ = some (.slice none 0 0) ∧ W.cell? ⟨w.heap.size, 8, none⟩ = some (.slice none 0 0) ∧ W.cell? ⟨w.heap.size + 1, 0, none⟩ = some (.int .i64 2) ∧ W.cell? ⟨w.heap.size + 1, 1, none⟩ = some (.bool false) ∧ W.cell? ⟨w.heap.size + 1, 2, none⟩ = some (.string t) ∧ W.cell? ⟨w.heap.size + 1, 3, none⟩ = some (.bool false) ∧ W.cell? ⟨w.heap.size + 1, 4, none⟩ = some (.slice none 0 0) ∧ W.cell? ⟨w.heap.size + 1, 5, none⟩ = some (.slice none 0 0) ∧ W.cell? ⟨w.heap.size + 1, 6, none⟩ = some (.bool false) ∧ W.cell? ⟨w.heap.size + 1, 7, none⟩ = some (.slice none 0 0) ∧ W.cell? ⟨w.heap.size + 1, 8, none⟩ = some (.slice none 0 0) ∧ W.cell? ⟨w.heap.size + 1 + 1, 0, none⟩ = some (.int .i64 0) ∧ W.cell? ⟨w.heap.size + 1 + 1, 1, none⟩ = some (.bool false) ∧ W.cell? ⟨w.heap.size + 1 + 1, 2, none⟩ = some (.string ⟨#[]⟩) ∧ W.cell? ⟨w.heap.size + 1 + 1, 3, none⟩ = some (.bool false) ∧ W.cell? ⟨w.heap.size + 1 + 1, 4, none⟩ = some (.slice none 0 0) ∧ W.cell? ⟨w.heap.size + 1 + 1, 5, none⟩ = some (.slice none 0 0) ∧ W.cell? ⟨w.heap.size + 1 + 1, 6, none⟩ = some (.bool false) ∧ W.cell? ⟨w.heap.size + 1 + 1, 7, none⟩ = some (.slice none 0 0) ∧ W.cell? ⟨w.heap.size + 1 + 1, 8, none⟩ = some (.slice none 0 0) ∧ W.frozen? ⟨w.heap.size + 1 + 1, 0, none⟩ = false ∧ W.frozen? ⟨w.heap.size + 1 + 1, 1, none⟩ = false ∧ W.frozen? ⟨w.heap.size + 1 + 1, 2, none⟩ = false ∧ W.frozen? ⟨w.heap.size + 1 + 1, 3, none⟩ = false ∧ W.frozen? ⟨w.heap.size + 1 + 1, 4, none⟩ = false ∧ W.frozen? ⟨w.heap.size + 1 + 1, 5, none⟩ = false ∧ W.frozen? ⟨w.heap.size + 1 + 1, 6, none⟩ = false ∧ W.frozen? ⟨w.heap.size + 1 + 1, 7, none⟩ = false ∧ W.frozen? ⟨w.heap.size + 1 + 1, 8, none⟩ = false
theorem TB.facts {w W : World} {s t : ByteArray} (h : TB w s t W) : TF w s t W := ⟨h.c0 0, h.c0 1, h.c0 2, h.c0 3, h.c0 4, h.c0 5, h.c0 6, h.c0 7, h.c0 8, h.c1 0, h.c1 1, h.c1 2, h.c1 3, h.c1 4, h.c1 5, h.c1 6, h.c1 7, h.c1 8, h.c2 0, h.c2 1, h.c2 2, h.c2 3, h.c2 4, h.c2 5, h.c2 6, h.c2 7, h.c2 8, h.f2 0, h.f2 1, h.f2 2, h.f2 3, h.f2 4, h.f2 5, h.f2 6, h.f2 7, h.f2 8⟩
def MT (w : World) (s t u : ByteArray) (W : World) (e : Ending) (w' : World) : Prop := ∃ g, e = .returned (strV g) ∧ Aside0 (SB w w' g u ∧ W.heap.size ≤ g ∧ Below W.heap.size W w') ∧ Aside0 (TB w s t w') ∧ TF w s t w'
theorem made_tb (w W : World) (s t u : ByteArray) (h : Aside0 (TB w s t W)) : Calls Tryz.prog 13 #[strI u] W (MT w s t u W) := by
  refine (made_str2 u W).mono ?_
  rintro e w' ⟨g, he, hg, hs, hc, hb⟩
  have h' := h.out.step hb
  exact ⟨g, he, ⟨⟨hs, hc, by have := h.out.hi; omega⟩, hg, hb⟩, ⟨h'⟩, h'.facts⟩
/-- Both calls behind the two texts. -/
theorem sum_tb (w W : World) (s t : ByteArray) (hl : s.size + t.size ≤ 4096) (a b : Nat) (ab : a ≠ b) (ha : SB w W a s) (hb : SB w W b t) :
    Calls Tryz.prog 12 #[strV a, .int .i64 12, strV b] W fun e w' => ∃ x, e = .returned (strV x) ∧ Below W.heap.size W w' ∧ ∀ W', Below w'.heap.size w' W' → Calls Tryz.prog 8 #[strV x] W' fun e w'' => e = .returned (strJ (s ++ t)) ∧ Below (w.heap.size + 3) W' w'' := by
  refine (add_str a b s t W ab ha.1 hb.1).mono ?_
  rintro e w' ⟨x, he, hx, hn, hc, hbel⟩
  refine ⟨x, he, hbel, fun W' hb' => ?_⟩
  have lx : x < w'.heap.size := World.block_lt_of_cell? w' _ hn.c0
  exact told_node x a b s t hl (w.heap.size + 3) W' W' (hn.below hb') (hc.below hb' lx) ((ha.2.1.below hbel ha.1.lt).below hb' (Nat.lt_of_lt_of_le ha.1.lt hbel.size)) (Below.refl _ _) (by have := ha.2.2; have := ha.1.lt; omega) ha.2.2 hb.2.2
def TO (w : World) (s t : ByteArray) (x : Nat) (W : World) : Prop := Calls Tryz.prog 8 #[strV x] W fun e w'' => e = .returned (strI (s ++ t)) ∧ Aside0 (TB w s t w'') ∧ TF w s t w''
def TR (w : World) (s t : ByteArray) (e : Ending) (w'' : World) : Prop := e = .returned (strI (s ++ t)) ∧ Aside0 (TB w s t w'') ∧ TF w s t w''
theorem told_tb (w W : World) (s t : ByteArray) (x : Nat) (h : Aside0 (TO w s t x W)) : Calls Tryz.prog 8 #[strV x] W (TR w s t) := h.out
def MS (w : World) (s t : ByteArray) (e : Ending) (w' : World) : Prop := ∃ x, e = .returned (strV x) ∧ Aside0 (TO w s t x w') ∧ Aside0 (TB w s t w') ∧ TF w s t w'
theorem sum2_tb (w X W1 W : World) (s t : ByteArray) (hl : s.size + t.size ≤ 4096) (a b : Nat) (h1 : Aside0 (SB w W1 a s ∧ X.heap.size ≤ a ∧ Below X.heap.size X W1)) (h2 : Aside0 (SB w W b t ∧ W1.heap.size ≤ b ∧ Below W1.heap.size W1 W)) (ht : Aside0 (TB w s t W)) :
    Calls Tryz.prog 12 #[strV a, .int .i64 12, strV b] W (MS w s t) := by
  have la := h1.out.1.1.lt
  refine (sum_tb w W s t hl a b (by have := h2.out.2.1; omega) (h1.out.1.step h2.out.2.2) h2.out.1).mono ?_
  rintro e w' ⟨x, he, hb, ho⟩
  have ht' := ht.out.step hb
  refine ⟨x, he, ⟨(ho w' (Below.refl _ _)).mono ?_⟩, ⟨ht'⟩, ht'.facts⟩
  rintro e w'' ⟨he, hb'⟩
  have ht2 := ht'.stepB (Nat.le_refl _) hb'
  exact ⟨he, ⟨ht2⟩, ht2.facts⟩
set_option maxRecDepth 100000 in
set_option maxHeartbeats 16000000 in
/-- The sum of two texts. -/
theorem binary_str (s t : ByteArray) (hl : s.size + t.size ≤ 4096) (w : World) :
    Calls Tryz.prog 6 #[.int .i64 0, strI s, strI t] w fun e w' => e = .returned (strJ (s ++ t)) ∧ Below w.heap.size w w' := by
  have HL := Aside0.mk hl
  clear hl
  go_enter Tryz.func6, Tryz.ntmps6
  go_wp2_with fail
  refine (oper0 _).mono ?_
  rintro e w1 ⟨rfl, hb⟩
  have hz := hb.size
  simp only [World.size_alloc] at hz
  have HT := Aside0.mk (show TB w s t w1 from ⟨(below_alloc (below_alloc (below_alloc (Below.refl _ _) _) _) _).trans (hb.mono (by simp <;> omega)), by omega, fun i => (hb.cell (p := ⟨w.heap.size, i, none⟩) (by simp only [World.size_alloc]; omega)).trans ((ca (by simp only [World.size_alloc]; omega)).trans ((ca (by simp)).trans (cn rfl))), fun i => (hb.cell (p := ⟨w.heap.size + 1, i, none⟩) (by simp only [World.size_alloc]; omega)).trans ((ca (by simp)).trans (cn (by simp))), fun i => (hb.cell (p := ⟨w.heap.size + 2, i, none⟩) (by simp only [World.size_alloc]; omega)).trans (cn (by simp)), fun i => (hb.frozen (p := ⟨w.heap.size + 2, i, none⟩) (by simp only [World.size_alloc]; omega)).trans (fn (by simp))⟩)
  obtain ⟨a0, a1, a2, a3, a4, a5, a6, a7, a8, b0, b1, b2, b3, b4, b5, b6, b7, b8, c0, c1, c2, c3, c4, c5, c6, c7, c8, z0, z1, z2, z3, z4, z5, z6, z7, z8⟩ := HT.out.facts
  clear hb
  have HT := Aside0.mk HT.out.drew
  go_wp2_with fail
  go_region_with (first
    | (go_at_call 13; (with_reducible refine (made_tb w _ s t _ (by with_reducible assumption)).mono ?_); rintro e w' ⟨g, rfl, HS, HT2, a0, a1, a2, a3, a4, a5, a6, a7, a8, b0, b1, b2, b3, b4, b5, b6, b7, b8, c0, c1, c2, c3, c4, c5, c6, c7, c8, z0, z1, z2, z3, z4, z5, z6, z7, z8⟩)
    | (go_at_call 12; (with_reducible refine (sum2_tb w _ _ _ s t HL.out _ _ (by with_reducible assumption) (by with_reducible assumption) (by with_reducible assumption)).mono ?_); rintro e w' ⟨x, rfl, HO, HT3, a0, a1, a2, a3, a4, a5, a6, a7, a8, b0, b1, b2, b3, b4, b5, b6, b7, b8, c0, c1, c2, c3, c4, c5, c6, c7, c8, z0, z1, z2, z3, z4, z5, z6, z7, z8⟩)
    | (go_at_call 8; (with_reducible refine (told_tb w _ s t _ (by with_reducible assumption)).mono ?_); rintro e w' ⟨rfl, HT4, a0, a1, a2, a3, a4, a5, a6, a7, a8, b0, b1, b2, b3, b4, b5, b6, b7, b8, c0, c1, c2, c3, c4, c5, c6, c7, c8, z0, z1, z2, z3, z4, z5, z6, z7, z8⟩))
  all_goals
    go_wp2
    refine bodyPost_ret (v := strJ (s ++ t)) (by simp [strJ, results, Tryz.results6, go_sem, c0, c1, c2, c3, c4, c5, c6, c7, c8]) rfl ⟨rfl, ?_⟩
    exact (((((((((HT4.out.below.setCell (by simp only []; omega) _).setCell (by simp only []; omega) _).setCell (by simp only []; omega) _).setCell (by simp only []; omega) _).setCell (by simp only []; omega) _).setCell (by simp only []; omega) _).setCell (by simp only []; omega) _).setCell (by simp only []; omega) _).setCell (by simp only []; omega) _)
end Go.Proofs.YtlfmgidpdmmpkaaGreatDoor

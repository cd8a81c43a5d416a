/- impl.Compare and impl.StringLen of texts. -/
import Derived.Test.YtlfmgidpdmmpkaaGreatDoorTexts
import Derived.Test.YtlfmgidpdmmpkaaGreatDoorTold
import Derived.Deep.RegionHeld3
namespace Go.Proofs.YtlfmgidpdmmpkaaGreatDoor
open Go Go.RowKit Go.Proofs.YtlfmgidpdmmpkaaGreatDoorW.PrintWords Go.MuLone
set_option linter.unusedVariables false
set_option linter.unusedSimpArgs false

/-- Two texts in boxes of their own, and nothing older turned. -/
structure TK (w : World) (s t : ByteArray) (W : World) : Prop where
  below : Below w.heap.size w W
  hi : w.heap.size + 1 < W.heap.size
  c0 : ∀ i, W.cell? ⟨w.heap.size, i, none⟩ = (#[.int .i64 2, .bool false, .string s, .bool false, .slice none 0 0, .slice none 0 0, .bool false, .slice none 0 0, .slice none 0 0] : Array Value)[i]?
  c1 : ∀ i, W.cell? ⟨w.heap.size + 1, i, none⟩ = (#[.int .i64 2, .bool false, .string t, .bool false, .slice none 0 0, .slice none 0 0, .bool false, .slice none 0 0, .slice none 0 0] : Array Value)[i]?
variable {w W W' : World} {s t : ByteArray}
theorem TK.stepB {B : Nat} (h : TK w s t W) (hB : w.heap.size + 2 ≤ B) (hb : Below B W W') : TK w s t W' :=
  ⟨h.below.trans (hb.mono (by omega)), Nat.lt_of_lt_of_le h.hi hb.size, fun i => (hb.cell (p := ⟨w.heap.size, i, none⟩) (by simp only []; omega)).trans (h.c0 i), fun i => (hb.cell (p := ⟨w.heap.size + 1, i, none⟩) (by simp only []; omega)).trans (h.c1 i)⟩
theorem TK.step (h : TK w s t W) (hb : Below W.heap.size W W') : TK w s t W' := h.stepB (by have := h.hi; omega) hb
abbrev TS (w : World) (s t : ByteArray) (W : World) : Prop := W.cell? ⟨w.heap.size, 0, none⟩ = some (.int .i64 2) ∧ W.cell? ⟨w.heap.size, 1, none⟩ = some (.bool false) ∧ W.cell? ⟨w.heap.size, 2, none⟩ = some (.string s) ∧ W.cell? ⟨w.heap.size, 3, none⟩ = some (.bool false) ∧ W.cell? ⟨w.heap.size, 4, none⟩ = some (.slice none 0 0) ∧ W.cell? ⟨w.heap.size, 5, none⟩ = some (.slice none 0 0) ∧ W.cell? ⟨w.heap.size, 6, none⟩ = some (.bool false) ∧ W.cell? ⟨w.heap.size, 7, none⟩ = some (.slice none 0 0) ∧ W.cell? ⟨w.heap.size, 8, none⟩ = some (.slice none 0 0) ∧ W.cell? ⟨w.heap.size + 1, 0, none⟩ = some (.int .i64 2) ∧ W.cell? ⟨w.heap.size + 1, 1, none⟩ = some (.bool false) ∧ W.cell? ⟨w.heap.size + 1, 2, none⟩ = some (.string t) ∧ W.cell? ⟨w.heap.size + 1, 3, none⟩ = some (.bool false) ∧ W.cell? ⟨w.heap.size + 1, 4, none⟩ = some (.slice none 0 0) ∧ W.cell? ⟨w.heap.size + 1, 5, none⟩ = some (.slice none 0 0) ∧ W.cell? ⟨w.heap.size + 1, 6, none⟩ = some (.bool false) ∧ W.cell? ⟨w.heap.size + 1, 7, none⟩ = some (.slice none 0 0) ∧ W.cell? ⟨w.heap.size + 1, 8, none⟩ = some (.slice none 0 0) ∧ Aside0 (TK w s t W)
theorem TS.mk (h : TK w s t W) : TS w s t W := ⟨h.c0 0, h.c0 1, h.c0 2, h.c0 3, h.c0 4, h.c0 5, h.c0 6, h.c0 7, h.c0 8, h.c1 0, h.c1 1, h.c1 2, h.c1 3, h.c1 4, h.c1 5, h.c1 6, h.c1 7, h.c1 8, ⟨h⟩⟩
theorem TS.out (h : TS w s t W) : TK w s t W := h.2.2.2.2.2.2.2.2.2.2.2.2.2.2.2.2.2.2.out
theorem TS.step (hb : Below W.heap.size W W') (h : TS w s t W) : TS w s t W' := TS.mk (h.out.step hb)
theorem TS.dr (h : TS w s t W) : TS w s t W.drew := TS.step (below_drew (Below.refl _ _)) h
/-- A text at a block that is new since w. -/
def SG (w W : World) (g : Nat) (u : ByteArray) : Prop := StrAt W g u ∧ w.heap.size + 2 ≤ g
theorem sg_step {g : Nat} {u : ByteArray} (h : Aside0 (SG w W g u)) (hb : Below W.heap.size W W') : Aside0 (SG w W' g u) := ⟨h.out.1.below hb, h.out.2⟩
theorem made_sg (u : ByteArray) (h : TS w s t W) : Calls Tryz.prog 13 #[strI u] W fun e w' => ∃ g, e = .returned (strV g) ∧ Aside0 (SG w w' g u) ∧ Below W.heap.size W w' := by
  refine (made_str u W).mono ?_
  rintro e w' ⟨g, he, hg, hs, hb⟩
  exact ⟨g, he, ⟨hs, by have := h.out.hi; omega⟩, hb⟩

set_option maxRecDepth 100000 in
set_option maxHeartbeats 16000000 in
theorem icmp_gen (k tok : Int) (R : Bool) (s t : ByteArray) (w : World) (hco : ∀ W, Calls Tryz.prog 14 #[.int .i64 k] W fun e w' => e = .returned (.tuple #[.int .i64 tok, .bool true]) ∧ Below W.heap.size W w')
    (hcc : ∀ (a b B : Nat) (W : World), B ≤ a → B ≤ b → StrAt W a s → StrAt W b t → Calls Tryz.prog 15 #[strV a, .int .i64 tok, strV b] W fun e w' => e = .returned (.bool R) ∧ Below B W w') :
    Calls Tryz.prog 7 #[.int .i64 k, strI s, strI t] w fun e w' => e = .returned (.bool R) ∧ Below w.heap.size w w' := by
  have HCO := Aside0.mk hco
  have hcc2 : ∀ (a b : Nat) (W : World), TS w s t W → Aside0 (SG w W a s) → Aside0 (SG w W b t) → Calls Tryz.prog 15 #[strV a, .int .i64 tok, strV b] W fun e w' => e = .returned (.bool R) ∧ TS w s t w' := fun a b W h1 h2 h3 => (hcc a b (w.heap.size + 2) W h2.out.2 h3.out.2 h2.out.1 h3.out.1).mono fun e w' h => ⟨h.1, TS.mk (h1.out.stepB (Nat.le_refl _) h.2)⟩
  have HCC := Aside0.mk hcc2
  clear hco hcc hcc2
  go_enter Tryz.func7, Tryz.ntmps7
  go_wp2_with fail
  refine (HCO.out _).mono ?_
  rintro e w1 ⟨rfl, hb⟩
  have hz := hb.size
  simp only [World.size_alloc] at hz
  have HT := Aside0.mk (TS.mk (w := w) (s := s) (t := t) (W := w1) ⟨(below_alloc (below_alloc (Below.refl _ _) _) _).trans (hb.mono (by simp; omega)), by omega, fun i => (hb.cell (p := ⟨w.heap.size, i, none⟩) (by simp only [World.size_alloc]; omega)).trans ((ca (by simp)).trans (cn rfl)), fun i => (hb.cell (p := ⟨w.heap.size + 1, i, none⟩) (by simp only [World.size_alloc]; omega)).trans (cn (by simp))⟩)
  clear hb HCO
  go_wp2_with fail
  go_cut [6] (fun v6 wc => v6 = .bool R ∧ Aside0 (Below w.heap.size w wc))
  case first =>
    go_region_held3 (fun W => W.cell? ⟨w.heap.size, 0, none⟩ = some (.int .i64 2) ∧ W.cell? ⟨w.heap.size, 1, none⟩ = some (.bool false) ∧ W.cell? ⟨w.heap.size, 2, none⟩ = some (.string s) ∧ W.cell? ⟨w.heap.size, 3, none⟩ = some (.bool false) ∧ W.cell? ⟨w.heap.size, 4, none⟩ = some (.slice none 0 0) ∧ W.cell? ⟨w.heap.size, 5, none⟩ = some (.slice none 0 0) ∧ W.cell? ⟨w.heap.size, 6, none⟩ = some (.bool false) ∧ W.cell? ⟨w.heap.size, 7, none⟩ = some (.slice none 0 0) ∧ W.cell? ⟨w.heap.size, 8, none⟩ = some (.slice none 0 0) ∧ W.cell? ⟨w.heap.size + 1, 0, none⟩ = some (.int .i64 2) ∧ W.cell? ⟨w.heap.size + 1, 1, none⟩ = some (.bool false) ∧ W.cell? ⟨w.heap.size + 1, 2, none⟩ = some (.string t) ∧ W.cell? ⟨w.heap.size + 1, 3, none⟩ = some (.bool false) ∧ W.cell? ⟨w.heap.size + 1, 4, none⟩ = some (.slice none 0 0) ∧ W.cell? ⟨w.heap.size + 1, 5, none⟩ = some (.slice none 0 0) ∧ W.cell? ⟨w.heap.size + 1, 6, none⟩ = some (.bool false) ∧ W.cell? ⟨w.heap.size + 1, 7, none⟩ = some (.slice none 0 0) ∧ W.cell? ⟨w.heap.size + 1, 8, none⟩ = some (.slice none 0 0) ∧ Aside0 (TK w s t W))
      (first | with_reducible assumption | exact TS.step (by with_reducible assumption) (by with_reducible assumption) | exact TS.dr HT.out | exact HT.out)
      (first | (go_at_call 13; (with_reducible refine (made_sg _ (by with_reducible assumption)).mono ?_); rintro e w' ⟨g, rfl, hsg, hb⟩; have hsi := TS.step hb (by with_reducible assumption); obtain ⟨hcl, hfr⟩ := bcell hb; have hz := hb.size; (try simp only [World.size_alloc, World.size_drew] at hz); (try replace hz := Nat.lt_of_succ_le hz)) | (go_at_call 15; (with_reducible refine (HCC.out _ _ _ (by with_reducible assumption) (sg_step (by with_reducible assumption) (by with_reducible assumption)) (by with_reducible assumption)).mono ?_); rintro e w' ⟨rfl, hsi⟩))
    all_goals (go_wp2_with fail; go_meet)
    all_goals exact ⟨rfl, ⟨(TS.out hsi).below⟩⟩
  case rest =>
    obtain ⟨rfl, HW⟩ := hcut
    go_wp2
    go_ret
    exact ⟨rfl, HW.out⟩

set_option maxRecDepth 100000 in
theorem comp0 (w : World) : Calls Tryz.prog 14 #[.int .i64 0] w fun e w' => e = .returned (.tuple #[.int .i64 39, .bool true]) ∧ Below w.heap.size w w' := by
  go_enter Tryz.func14, Tryz.ntmps14
  go_wp2
  go_ret2
  exact ⟨rfl, below_alloc (Below.refl _ _) _⟩
theorem icmp0 (s t : ByteArray) (w : World) : Calls Tryz.prog 7 #[.int .i64 0, strI s, strI t] w fun e w' => e = .returned (.bool (cmpB 0 (strEq s t) (strLt s t))) ∧ Below w.heap.size w w' :=
  icmp_gen 0 39 _ s t w comp0 (fun a b B W ha hbb hs ht => ccmp0 a b s t B W W (Below.refl _ _) ha hbb hs ht)
set_option maxRecDepth 100000 in
theorem comp1 (w : World) : Calls Tryz.prog 14 #[.int .i64 1] w fun e w' => e = .returned (.tuple #[.int .i64 44, .bool true]) ∧ Below w.heap.size w w' := by
  go_enter Tryz.func14, Tryz.ntmps14
  go_wp2
  go_ret2
  exact ⟨rfl, below_alloc (Below.refl _ _) _⟩
theorem icmp1 (s t : ByteArray) (w : World) : Calls Tryz.prog 7 #[.int .i64 1, strI s, strI t] w fun e w' => e = .returned (.bool (cmpB 1 (strEq s t) (strLt s t))) ∧ Below w.heap.size w w' :=
  icmp_gen 1 44 _ s t w comp1 (fun a b B W ha hbb hs ht => ccmp1 a b s t B W W (Below.refl _ _) ha hbb hs ht)
set_option maxRecDepth 100000 in
theorem comp2 (w : World) : Calls Tryz.prog 14 #[.int .i64 2] w fun e w' => e = .returned (.tuple #[.int .i64 40, .bool true]) ∧ Below w.heap.size w w' := by
  go_enter Tryz.func14, Tryz.ntmps14
  go_wp2
  go_ret2
  exact ⟨rfl, below_alloc (Below.refl _ _) _⟩
theorem icmp2 (s t : ByteArray) (w : World) : Calls Tryz.prog 7 #[.int .i64 2, strI s, strI t] w fun e w' => e = .returned (.bool (cmpB 2 (strEq s t) (strLt s t))) ∧ Below w.heap.size w w' :=
  icmp_gen 2 40 _ s t w comp2 (fun a b B W ha hbb hs ht => ccmp2 a b s t B W W (Below.refl _ _) ha hbb hs ht)
set_option maxRecDepth 100000 in
theorem comp3 (w : World) : Calls Tryz.prog 14 #[.int .i64 3] w fun e w' => e = .returned (.tuple #[.int .i64 45, .bool true]) ∧ Below w.heap.size w w' := by
  go_enter Tryz.func14, Tryz.ntmps14
  go_wp2
  go_ret2
  exact ⟨rfl, below_alloc (Below.refl _ _) _⟩
theorem icmp3 (s t : ByteArray) (w : World) : Calls Tryz.prog 7 #[.int .i64 3, strI s, strI t] w fun e w' => e = .returned (.bool (cmpB 3 (strEq s t) (strLt s t))) ∧ Below w.heap.size w w' :=
  icmp_gen 3 45 _ s t w comp3 (fun a b B W ha hbb hs ht => ccmp3 a b s t B W W (Below.refl _ _) ha hbb hs ht)
set_option maxRecDepth 100000 in
theorem comp4 (w : World) : Calls Tryz.prog 14 #[.int .i64 4] w fun e w' => e = .returned (.tuple #[.int .i64 41, .bool true]) ∧ Below w.heap.size w w' := by
  go_enter Tryz.func14, Tryz.ntmps14
  go_wp2
  go_ret2
  exact ⟨rfl, below_alloc (Below.refl _ _) _⟩
theorem icmp4 (s t : ByteArray) (w : World) : Calls Tryz.prog 7 #[.int .i64 4, strI s, strI t] w fun e w' => e = .returned (.bool (cmpB 4 (strEq s t) (strLt s t))) ∧ Below w.heap.size w w' :=
  icmp_gen 4 41 _ s t w comp4 (fun a b B W ha hbb hs ht => ccmp4 a b s t B W W (Below.refl _ _) ha hbb hs ht)
set_option maxRecDepth 100000 in
theorem comp5 (w : World) : Calls Tryz.prog 14 #[.int .i64 5] w fun e w' => e = .returned (.tuple #[.int .i64 46, .bool true]) ∧ Below w.heap.size w w' := by
  go_enter Tryz.func14, Tryz.ntmps14
  go_wp2
  go_ret2
  exact ⟨rfl, below_alloc (Below.refl _ _) _⟩
theorem icmp5 (s t : ByteArray) (w : World) : Calls Tryz.prog 7 #[.int .i64 5, strI s, strI t] w fun e w' => e = .returned (.bool (cmpB 5 (strEq s t) (strLt s t))) ∧ Below w.heap.size w w' :=
  icmp_gen 5 46 _ s t w comp5 (fun a b B W ha hbb hs ht => ccmp5 a b s t B W W (Below.refl _ _) ha hbb hs ht)
theorem icmp_any (k : Nat) (hk : k < 6) (s t : ByteArray) (w : World) : Calls Tryz.prog 7 #[.int .i64 (k : Int), strI s, strI t] w fun e w' => e = .returned (.bool (cmpB k (strEq s t) (strLt s t))) ∧ Below w.heap.size w w' := by
  have hc : k = 0 ∨ k = 1 ∨ k = 2 ∨ k = 3 ∨ k = 4 ∨ k = 5 := by omega
  rcases hc with rfl | rfl | rfl | rfl | rfl | rfl
  · exact icmp0 s t w
  · exact icmp1 s t w
  · exact icmp2 s t w
  · exact icmp3 s t w
  · exact icmp4 s t w
  · exact icmp5 s t w

end Go.Proofs.YtlfmgidpdmmpkaaGreatDoor

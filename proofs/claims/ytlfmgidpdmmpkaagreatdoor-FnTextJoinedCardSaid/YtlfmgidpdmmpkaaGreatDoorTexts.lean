/- Texts: MakeString, made, text, match, Compare and StringLen of them. -/
import Derived.Test.YtlfmgidpdmmpkaaGreatDoorStr
namespace Go.Proofs.YtlfmgidpdmmpkaaGreatDoor
open Go Go.RowKit Go.Proofs.YtlfmgidpdmmpkaaGreatDoorW.PrintWords Go.MuLone
set_option linter.unusedVariables false
set_option linter.unusedSimpArgs false

/-- A text as a value of the package. -/
abbrev strV (b : Nat) : Value := .iface 100 (.pointer (some ⟨b, 0, none⟩))
/-- A text as plain data. -/
abbrev strI (s : ByteArray) : Value := .agg #[.int .i64 2, .bool false, .string s, .bool false, .slice none 0 0, .slice none 0 0, .bool false, .slice none 0 0, .slice none 0 0]

set_option maxRecDepth 100000 in
theorem ord_str (b : Nat) (w : World) : Calls Tryz.prog 95 #[strV b] w fun e w' => e = .returned (.int .i64 1) ∧ w = w' := by
  have ta1 : ∀ w, (Instr.typeAssert (strV b) 37 72 true).run Tryz.prog w = .ok (.tuple #[.agg #[], .bool false]) w := fun _ => by kernel_rfl
  have ta2 : ∀ w, (Instr.typeAssert (strV b) 37 79 true).run Tryz.prog w = .ok (.tuple #[.bool false, .bool false]) w := fun _ => by kernel_rfl
  have ta3 : ∀ w, (Instr.typeAssert (strV b) 37 100 true).run Tryz.prog w = .ok (.tuple #[.pointer (some ⟨b, 0, none⟩), .bool true]) w := fun _ => by kernel_rfl
  go_enter Tryz.func95, Tryz.ntmps95
  go_wp2
  go_ret
  exact ⟨rfl, rfl⟩
set_option maxRecDepth 100000 in
theorem match_str (a b : Nat) (w : World) : Calls Tryz.prog 32 #[strV a, strV b] w fun e w' => e = .returned (.tuple #[strV a, strV b]) ∧ w = w' := by
  go_enter Tryz.func32, Tryz.ntmps32
  go_wp2_with (go_at_call 95; (with_reducible refine (ord_str _ _).mono ?_); rintro e w' ⟨rfl, rfl⟩)
  go_ret2
  exact ⟨rfl, rfl⟩

set_option maxRecDepth 100000 in
set_option maxHeartbeats 1000000 in
theorem mkstr (s : ByteArray) (w : World) : Calls Tryz.prog 29 #[.string s] w fun e w' => ∃ g, e = .returned (strV g) ∧ w.heap.size ≤ g ∧ StrAt w' g s ∧ Below w.heap.size w w' := by
  by_cases h0 : s.size = 0
  · have hs : s = ByteArray.empty := by simpa using h0
    have hs : s = { data := #[] } := hs
    subst hs
    go_enter Tryz.func29, Tryz.ntmps29
    go_wp2
    go_ret
    exact ⟨_, rfl, Nat.le_refl _, ⟨cn rfl, cn rfl, cn rfl, cn rfl, fn rfl⟩, below_alloc (Below.refl _ _) _⟩
  · have h1 : (s.toList.isEmpty) = false := not_empty (by omega)
    clear h0
    go_enter Tryz.func29, Tryz.ntmps29
    go_wp2
    go_ret
    exact ⟨_, rfl, Nat.le_refl _, ⟨cn rfl, cn rfl, cn rfl, cn rfl, fn rfl⟩, below_alloc (Below.refl _ _) _⟩
set_option maxRecDepth 100000 in
set_option maxHeartbeats 1000000 in
theorem made_str (s : ByteArray) (w : World) : Calls Tryz.prog 13 #[strI s] w fun e w' => ∃ g, e = .returned (strV g) ∧ w.heap.size ≤ g ∧ StrAt w' g s ∧ Below w.heap.size w w' := by
  go_enter Tryz.func13, Tryz.ntmps13
  go_wp2_with fail
  refine (mkstr s _).mono ?_
  rintro e w1 ⟨g, rfl, hg, hs, hb⟩
  have HG := Aside0.mk hg
  have HS := Aside0.mk hs
  have HB := Aside0.mk hb
  clear hg hs hb
  go_wp2
  go_ret
  have hg := HG.out
  simp only [World.size_alloc] at hg
  exact ⟨_, rfl, by omega, HS.out, (below_alloc (Below.refl _ _) _).trans (HB.out.mono (by simp))⟩

/-- How texts compare, by the model's words: whether they are one, whether the first is less. -/
def strEq (s t : ByteArray) : Bool := s.toList == t.toList
def strLt (s t : ByteArray) : Bool := Op.bytesLess s.toList t.toList
def cmpB (k : Nat) (E L : Bool) : Bool := match k with | 0 => E | 1 => !E | 2 => L | 3 => L || E | 4 => !(L || E) | _ => !L

set_option maxRecDepth 100000 in
set_option maxHeartbeats 1000000 in
theorem ccmp0 (a b : Nat) (s t : ByteArray) (B : Nat) (w0 w : World) (hb : Below B w0 w) (ha : B ≤ a) (hbb : B ≤ b) (hs : StrAt w a s) (ht : StrAt w b t) :
    Calls Tryz.prog 15 #[strV a, .int .i64 39, strV b] w fun e w' => e = .returned (.bool (cmpB 0 (strEq s t) (strLt s t))) ∧ Below B w0 w' := by
  have ta1 : ∀ w, (Instr.typeAssert (strV a) 37 72 true).run Tryz.prog w = .ok (.tuple #[.agg #[], .bool false]) w := fun _ => by kernel_rfl
  have ta2 : ∀ w, (Instr.typeAssert (strV a) 37 79 true).run Tryz.prog w = .ok (.tuple #[.bool false, .bool false]) w := fun _ => by kernel_rfl
  have ta3 : ∀ w, (Instr.typeAssert (strV a) 37 57 true).run Tryz.prog w = .ok (.tuple #[.int .i64 0, .bool false]) w := fun _ => by kernel_rfl
  have ta4 : ∀ w, (Instr.typeAssert (strV a) 37 63 true).run Tryz.prog w = .ok (.tuple #[.agg #[.pointer none], .bool false]) w := fun _ => by kernel_rfl
  have ta5 : ∀ w, (Instr.typeAssert (strV a) 37 90 true).run Tryz.prog w = .ok (.tuple #[.agg #[.pointer none], .bool false]) w := fun _ => by kernel_rfl
  have ta6 : ∀ w, (Instr.typeAssert (strV a) 37 94 true).run Tryz.prog w = .ok (.tuple #[.agg #[.pointer none], .bool false]) w := fun _ => by kernel_rfl
  have ta7 : ∀ w, (Instr.typeAssert (strV a) 37 99 true).run Tryz.prog w = .ok (.tuple #[.agg #[.nilIface, .nilIface], .bool false]) w := fun _ => by kernel_rfl
  have ta8 : ∀ w, (Instr.typeAssert (strV a) 37 100 true).run Tryz.prog w = .ok (.tuple #[.pointer (some ⟨a, 0, none⟩), .bool true]) w := fun _ => by kernel_rfl
  have ta9 : ∀ w, (Instr.typeAssert (strV b) 37 100 false).run Tryz.prog w = .ok (.pointer (some ⟨b, 0, none⟩)) w := fun _ => by kernel_rfl
  have HS := Aside0.mk hs
  have HT := Aside0.mk ht
  have HB := Aside0.mk (lockW_below (lockW_below hb ha) hbb)
  clear hs ht hb ha hbb
  obtain ⟨E, hE⟩ : ∃ E, (s.toList == t.toList) = E := ⟨_, rfl⟩
  obtain ⟨L, hL⟩ : ∃ L, Op.bytesLess s.toList t.toList = L := ⟨_, rfl⟩
  unfold strEq strLt
  rw [hE, hL]
  have HE := Aside0.mk hE
  have HL := Aside0.mk hL
  clear hE hL
  go_enter Tryz.func15, Tryz.ntmps15
  go_wp2_with (go_at_call 32; (with_reducible refine (match_str _ _ _).mono ?_); rintro e w' ⟨rfl, rfl⟩)
  refine (string_any a s _ HS.out).mono ?_
  rintro e w1 ⟨rfl, rfl⟩
  go_wp2_with fail
  refine (string_any b t _ (HT.out.lock ⟨_, HS.out.c0⟩)).mono ?_
  rintro e w2 ⟨rfl, rfl⟩
  have hE := HE.out
  have hL := HL.out
  cases E <;> cases L
  all_goals
    go_wp2
    go_ret
    exact ⟨rfl, HB.out⟩

set_option maxRecDepth 100000 in
set_option maxHeartbeats 1000000 in
theorem ccmp1 (a b : Nat) (s t : ByteArray) (B : Nat) (w0 w : World) (hb : Below B w0 w) (ha : B ≤ a) (hbb : B ≤ b) (hs : StrAt w a s) (ht : StrAt w b t) :
    Calls Tryz.prog 15 #[strV a, .int .i64 44, strV b] w fun e w' => e = .returned (.bool (cmpB 1 (strEq s t) (strLt s t))) ∧ Below B w0 w' := by
  have ta1 : ∀ w, (Instr.typeAssert (strV a) 37 72 true).run Tryz.prog w = .ok (.tuple #[.agg #[], .bool false]) w := fun _ => by kernel_rfl
  have ta2 : ∀ w, (Instr.typeAssert (strV a) 37 79 true).run Tryz.prog w = .ok (.tuple #[.bool false, .bool false]) w := fun _ => by kernel_rfl
  have ta3 : ∀ w, (Instr.typeAssert (strV a) 37 57 true).run Tryz.prog w = .ok (.tuple #[.int .i64 0, .bool false]) w := fun _ => by kernel_rfl
  have ta4 : ∀ w, (Instr.typeAssert (strV a) 37 63 true).run Tryz.prog w = .ok (.tuple #[.agg #[.pointer none], .bool false]) w := fun _ => by kernel_rfl
  have ta5 : ∀ w, (Instr.typeAssert (strV a) 37 90 true).run Tryz.prog w = .ok (.tuple #[.agg #[.pointer none], .bool false]) w := fun _ => by kernel_rfl
  have ta6 : ∀ w, (Instr.typeAssert (strV a) 37 94 true).run Tryz.prog w = .ok (.tuple #[.agg #[.pointer none], .bool false]) w := fun _ => by kernel_rfl
  have ta7 : ∀ w, (Instr.typeAssert (strV a) 37 99 true).run Tryz.prog w = .ok (.tuple #[.agg #[.nilIface, .nilIface], .bool false]) w := fun _ => by kernel_rfl
  have ta8 : ∀ w, (Instr.typeAssert (strV a) 37 100 true).run Tryz.prog w = .ok (.tuple #[.pointer (some ⟨a, 0, none⟩), .bool true]) w := fun _ => by kernel_rfl
  have ta9 : ∀ w, (Instr.typeAssert (strV b) 37 100 false).run Tryz.prog w = .ok (.pointer (some ⟨b, 0, none⟩)) w := fun _ => by kernel_rfl
  have HS := Aside0.mk hs
  have HT := Aside0.mk ht
  have HB := Aside0.mk (lockW_below (lockW_below hb ha) hbb)
  clear hs ht hb ha hbb
  obtain ⟨E, hE⟩ : ∃ E, (s.toList == t.toList) = E := ⟨_, rfl⟩
  obtain ⟨L, hL⟩ : ∃ L, Op.bytesLess s.toList t.toList = L := ⟨_, rfl⟩
  unfold strEq strLt
  rw [hE, hL]
  have HE := Aside0.mk hE
  have HL := Aside0.mk hL
  clear hE hL
  go_enter Tryz.func15, Tryz.ntmps15
  go_wp2_with (go_at_call 32; (with_reducible refine (match_str _ _ _).mono ?_); rintro e w' ⟨rfl, rfl⟩)
  refine (string_any a s _ HS.out).mono ?_
  rintro e w1 ⟨rfl, rfl⟩
  go_wp2_with fail
  refine (string_any b t _ (HT.out.lock ⟨_, HS.out.c0⟩)).mono ?_
  rintro e w2 ⟨rfl, rfl⟩
  have hE := HE.out
  have hL := HL.out
  cases E <;> cases L
  all_goals
    go_wp2
    go_ret
    exact ⟨rfl, HB.out⟩

set_option maxRecDepth 100000 in
set_option maxHeartbeats 1000000 in
theorem ccmp2 (a b : Nat) (s t : ByteArray) (B : Nat) (w0 w : World) (hb : Below B w0 w) (ha : B ≤ a) (hbb : B ≤ b) (hs : StrAt w a s) (ht : StrAt w b t) :
    Calls Tryz.prog 15 #[strV a, .int .i64 40, strV b] w fun e w' => e = .returned (.bool (cmpB 2 (strEq s t) (strLt s t))) ∧ Below B w0 w' := by
  have ta1 : ∀ w, (Instr.typeAssert (strV a) 37 72 true).run Tryz.prog w = .ok (.tuple #[.agg #[], .bool false]) w := fun _ => by kernel_rfl
  have ta2 : ∀ w, (Instr.typeAssert (strV a) 37 79 true).run Tryz.prog w = .ok (.tuple #[.bool false, .bool false]) w := fun _ => by kernel_rfl
  have ta3 : ∀ w, (Instr.typeAssert (strV a) 37 57 true).run Tryz.prog w = .ok (.tuple #[.int .i64 0, .bool false]) w := fun _ => by kernel_rfl
  have ta4 : ∀ w, (Instr.typeAssert (strV a) 37 63 true).run Tryz.prog w = .ok (.tuple #[.agg #[.pointer none], .bool false]) w := fun _ => by kernel_rfl
  have ta5 : ∀ w, (Instr.typeAssert (strV a) 37 90 true).run Tryz.prog w = .ok (.tuple #[.agg #[.pointer none], .bool false]) w := fun _ => by kernel_rfl
  have ta6 : ∀ w, (Instr.typeAssert (strV a) 37 94 true).run Tryz.prog w = .ok (.tuple #[.agg #[.pointer none], .bool false]) w := fun _ => by kernel_rfl
  have ta7 : ∀ w, (Instr.typeAssert (strV a) 37 99 true).run Tryz.prog w = .ok (.tuple #[.agg #[.nilIface, .nilIface], .bool false]) w := fun _ => by kernel_rfl
  have ta8 : ∀ w, (Instr.typeAssert (strV a) 37 100 true).run Tryz.prog w = .ok (.tuple #[.pointer (some ⟨a, 0, none⟩), .bool true]) w := fun _ => by kernel_rfl
  have ta9 : ∀ w, (Instr.typeAssert (strV b) 37 100 false).run Tryz.prog w = .ok (.pointer (some ⟨b, 0, none⟩)) w := fun _ => by kernel_rfl
  have HS := Aside0.mk hs
  have HT := Aside0.mk ht
  have HB := Aside0.mk (lockW_below (lockW_below hb ha) hbb)
  clear hs ht hb ha hbb
  obtain ⟨E, hE⟩ : ∃ E, (s.toList == t.toList) = E := ⟨_, rfl⟩
  obtain ⟨L, hL⟩ : ∃ L, Op.bytesLess s.toList t.toList = L := ⟨_, rfl⟩
  unfold strEq strLt
  rw [hE, hL]
  have HE := Aside0.mk hE
  have HL := Aside0.mk hL
  clear hE hL
  go_enter Tryz.func15, Tryz.ntmps15
  go_wp2_with (go_at_call 32; (with_reducible refine (match_str _ _ _).mono ?_); rintro e w' ⟨rfl, rfl⟩)
  refine (string_any a s _ HS.out).mono ?_
  rintro e w1 ⟨rfl, rfl⟩
  go_wp2_with fail
  refine (string_any b t _ (HT.out.lock ⟨_, HS.out.c0⟩)).mono ?_
  rintro e w2 ⟨rfl, rfl⟩
  have hE := HE.out
  have hL := HL.out
  cases E <;> cases L
  all_goals
    go_wp2
    go_ret
    exact ⟨rfl, HB.out⟩

set_option maxRecDepth 100000 in
set_option maxHeartbeats 1000000 in
theorem ccmp3 (a b : Nat) (s t : ByteArray) (B : Nat) (w0 w : World) (hb : Below B w0 w) (ha : B ≤ a) (hbb : B ≤ b) (hs : StrAt w a s) (ht : StrAt w b t) :
    Calls Tryz.prog 15 #[strV a, .int .i64 45, strV b] w fun e w' => e = .returned (.bool (cmpB 3 (strEq s t) (strLt s t))) ∧ Below B w0 w' := by
  have ta1 : ∀ w, (Instr.typeAssert (strV a) 37 72 true).run Tryz.prog w = .ok (.tuple #[.agg #[], .bool false]) w := fun _ => by kernel_rfl
  have ta2 : ∀ w, (Instr.typeAssert (strV a) 37 79 true).run Tryz.prog w = .ok (.tuple #[.bool false, .bool false]) w := fun _ => by kernel_rfl
  have ta3 : ∀ w, (Instr.typeAssert (strV a) 37 57 true).run Tryz.prog w = .ok (.tuple #[.int .i64 0, .bool false]) w := fun _ => by kernel_rfl
  have ta4 : ∀ w, (Instr.typeAssert (strV a) 37 63 true).run Tryz.prog w = .ok (.tuple #[.agg #[.pointer none], .bool false]) w := fun _ => by kernel_rfl
  have ta5 : ∀ w, (Instr.typeAssert (strV a) 37 90 true).run Tryz.prog w = .ok (.tuple #[.agg #[.pointer none], .bool false]) w := fun _ => by kernel_rfl
  have ta6 : ∀ w, (Instr.typeAssert (strV a) 37 94 true).run Tryz.prog w = .ok (.tuple #[.agg #[.pointer none], .bool false]) w := fun _ => by kernel_rfl
  have ta7 : ∀ w, (Instr.typeAssert (strV a) 37 99 true).run Tryz.prog w = .ok (.tuple #[.agg #[.nilIface, .nilIface], .bool false]) w := fun _ => by kernel_rfl
  have ta8 : ∀ w, (Instr.typeAssert (strV a) 37 100 true).run Tryz.prog w = .ok (.tuple #[.pointer (some ⟨a, 0, none⟩), .bool true]) w := fun _ => by kernel_rfl
  have ta9 : ∀ w, (Instr.typeAssert (strV b) 37 100 false).run Tryz.prog w = .ok (.pointer (some ⟨b, 0, none⟩)) w := fun _ => by kernel_rfl
  have HS := Aside0.mk hs
  have HT := Aside0.mk ht
  have HB := Aside0.mk (lockW_below (lockW_below hb ha) hbb)
  clear hs ht hb ha hbb
  obtain ⟨E, hE⟩ : ∃ E, (s.toList == t.toList) = E := ⟨_, rfl⟩
  obtain ⟨L, hL⟩ : ∃ L, Op.bytesLess s.toList t.toList = L := ⟨_, rfl⟩
  unfold strEq strLt
  rw [hE, hL]
  have HE := Aside0.mk hE
  have HL := Aside0.mk hL
  clear hE hL
  go_enter Tryz.func15, Tryz.ntmps15
  go_wp2_with (go_at_call 32; (with_reducible refine (match_str _ _ _).mono ?_); rintro e w' ⟨rfl, rfl⟩)
  refine (string_any a s _ HS.out).mono ?_
  rintro e w1 ⟨rfl, rfl⟩
  go_wp2_with fail
  refine (string_any b t _ (HT.out.lock ⟨_, HS.out.c0⟩)).mono ?_
  rintro e w2 ⟨rfl, rfl⟩
  have hE := HE.out
  have hL := HL.out
  cases E <;> cases L
  all_goals
    go_wp2
    go_ret
    exact ⟨rfl, HB.out⟩

set_option maxRecDepth 100000 in
set_option maxHeartbeats 1000000 in
theorem ccmp4 (a b : Nat) (s t : ByteArray) (B : Nat) (w0 w : World) (hb : Below B w0 w) (ha : B ≤ a) (hbb : B ≤ b) (hs : StrAt w a s) (ht : StrAt w b t) :
    Calls Tryz.prog 15 #[strV a, .int .i64 41, strV b] w fun e w' => e = .returned (.bool (cmpB 4 (strEq s t) (strLt s t))) ∧ Below B w0 w' := by
  have ta1 : ∀ w, (Instr.typeAssert (strV a) 37 72 true).run Tryz.prog w = .ok (.tuple #[.agg #[], .bool false]) w := fun _ => by kernel_rfl
  have ta2 : ∀ w, (Instr.typeAssert (strV a) 37 79 true).run Tryz.prog w = .ok (.tuple #[.bool false, .bool false]) w := fun _ => by kernel_rfl
  have ta3 : ∀ w, (Instr.typeAssert (strV a) 37 57 true).run Tryz.prog w = .ok (.tuple #[.int .i64 0, .bool false]) w := fun _ => by kernel_rfl
  have ta4 : ∀ w, (Instr.typeAssert (strV a) 37 63 true).run Tryz.prog w = .ok (.tuple #[.agg #[.pointer none], .bool false]) w := fun _ => by kernel_rfl
  have ta5 : ∀ w, (Instr.typeAssert (strV a) 37 90 true).run Tryz.prog w = .ok (.tuple #[.agg #[.pointer none], .bool false]) w := fun _ => by kernel_rfl
  have ta6 : ∀ w, (Instr.typeAssert (strV a) 37 94 true).run Tryz.prog w = .ok (.tuple #[.agg #[.pointer none], .bool false]) w := fun _ => by kernel_rfl
  have ta7 : ∀ w, (Instr.typeAssert (strV a) 37 99 true).run Tryz.prog w = .ok (.tuple #[.agg #[.nilIface, .nilIface], .bool false]) w := fun _ => by kernel_rfl
  have ta8 : ∀ w, (Instr.typeAssert (strV a) 37 100 true).run Tryz.prog w = .ok (.tuple #[.pointer (some ⟨a, 0, none⟩), .bool true]) w := fun _ => by kernel_rfl
  have ta9 : ∀ w, (Instr.typeAssert (strV b) 37 100 false).run Tryz.prog w = .ok (.pointer (some ⟨b, 0, none⟩)) w := fun _ => by kernel_rfl
  have HS := Aside0.mk hs
  have HT := Aside0.mk ht
  have HB := Aside0.mk (lockW_below (lockW_below hb ha) hbb)
  clear hs ht hb ha hbb
  obtain ⟨E, hE⟩ : ∃ E, (s.toList == t.toList) = E := ⟨_, rfl⟩
  obtain ⟨L, hL⟩ : ∃ L, Op.bytesLess s.toList t.toList = L := ⟨_, rfl⟩
  unfold strEq strLt
  rw [hE, hL]
  have HE := Aside0.mk hE
  have HL := Aside0.mk hL
  clear hE hL
  go_enter Tryz.func15, Tryz.ntmps15
  go_wp2_with (go_at_call 32; (with_reducible refine (match_str _ _ _).mono ?_); rintro e w' ⟨rfl, rfl⟩)
  refine (string_any a s _ HS.out).mono ?_
  rintro e w1 ⟨rfl, rfl⟩
  go_wp2_with fail
  refine (string_any b t _ (HT.out.lock ⟨_, HS.out.c0⟩)).mono ?_
  rintro e w2 ⟨rfl, rfl⟩
  have hE := HE.out
  have hL := HL.out
  cases E <;> cases L
  all_goals
    go_wp2
    go_ret
    exact ⟨rfl, HB.out⟩

set_option maxRecDepth 100000 in
set_option maxHeartbeats 1000000 in
theorem ccmp5 (a b : Nat) (s t : ByteArray) (B : Nat) (w0 w : World) (hb : Below B w0 w) (ha : B ≤ a) (hbb : B ≤ b) (hs : StrAt w a s) (ht : StrAt w b t) :
    Calls Tryz.prog 15 #[strV a, .int .i64 46, strV b] w fun e w' => e = .returned (.bool (cmpB 5 (strEq s t) (strLt s t))) ∧ Below B w0 w' := by
  have ta1 : ∀ w, (Instr.typeAssert (strV a) 37 72 true).run Tryz.prog w = .ok (.tuple #[.agg #[], .bool false]) w := fun _ => by kernel_rfl
  have ta2 : ∀ w, (Instr.typeAssert (strV a) 37 79 true).run Tryz.prog w = .ok (.tuple #[.bool false, .bool false]) w := fun _ => by kernel_rfl
  have ta3 : ∀ w, (Instr.typeAssert (strV a) 37 57 true).run Tryz.prog w = .ok (.tuple #[.int .i64 0, .bool false]) w := fun _ => by kernel_rfl
  have ta4 : ∀ w, (Instr.typeAssert (strV a) 37 63 true).run Tryz.prog w = .ok (.tuple #[.agg #[.pointer none], .bool false]) w := fun _ => by kernel_rfl
  have ta5 : ∀ w, (Instr.typeAssert (strV a) 37 90 true).run Tryz.prog w = .ok (.tuple #[.agg #[.pointer none], .bool false]) w := fun _ => by kernel_rfl
  have ta6 : ∀ w, (Instr.typeAssert (strV a) 37 94 true).run Tryz.prog w = .ok (.tuple #[.agg #[.pointer none], .bool false]) w := fun _ => by kernel_rfl
  have ta7 : ∀ w, (Instr.typeAssert (strV a) 37 99 true).run Tryz.prog w = .ok (.tuple #[.agg #[.nilIface, .nilIface], .bool false]) w := fun _ => by kernel_rfl
  have ta8 : ∀ w, (Instr.typeAssert (strV a) 37 100 true).run Tryz.prog w = .ok (.tuple #[.pointer (some ⟨a, 0, none⟩), .bool true]) w := fun _ => by kernel_rfl
  have ta9 : ∀ w, (Instr.typeAssert (strV b) 37 100 false).run Tryz.prog w = .ok (.pointer (some ⟨b, 0, none⟩)) w := fun _ => by kernel_rfl
  have HS := Aside0.mk hs
  have HT := Aside0.mk ht
  have HB := Aside0.mk (lockW_below (lockW_below hb ha) hbb)
  clear hs ht hb ha hbb
  obtain ⟨E, hE⟩ : ∃ E, (s.toList == t.toList) = E := ⟨_, rfl⟩
  obtain ⟨L, hL⟩ : ∃ L, Op.bytesLess s.toList t.toList = L := ⟨_, rfl⟩
  unfold strEq strLt
  rw [hE, hL]
  have HE := Aside0.mk hE
  have HL := Aside0.mk hL
  clear hE hL
  go_enter Tryz.func15, Tryz.ntmps15
  go_wp2_with (go_at_call 32; (with_reducible refine (match_str _ _ _).mono ?_); rintro e w' ⟨rfl, rfl⟩)
  refine (string_any a s _ HS.out).mono ?_
  rintro e w1 ⟨rfl, rfl⟩
  go_wp2_with fail
  refine (string_any b t _ (HT.out.lock ⟨_, HS.out.c0⟩)).mono ?_
  rintro e w2 ⟨rfl, rfl⟩
  have hE := HE.out
  have hL := HL.out
  cases E <;> cases L
  all_goals
    go_wp2
    go_ret
    exact ⟨rfl, HB.out⟩

end Go.Proofs.YtlfmgidpdmmpkaaGreatDoor

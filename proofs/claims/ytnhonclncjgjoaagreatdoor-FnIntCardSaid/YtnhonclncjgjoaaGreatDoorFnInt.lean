/- Joined of: ToldI LitI FnInt. -/
import Derived.Test.YtnhonclncjgjoaaGreatDoorTold
import Derived.Test.YtnhonclncjgjoaaGreatDoorPintE
import Derived.Test.YtnhonclncjgjoaaGreatDoorIsInt
import Derived.Test.YtnhonclncjgjoaaGreatDoorFig
import Derived.Deep.RegionHeld3
import Derived.Deep.DeepCutAuto
namespace Go.Proofs.YtnhonclncjgjoaaGreatDoor
open Go Go.RowKit Go.Proofs.YtnhonclncjgjoaaGreatDoorW.PrintWords
set_option linter.unusedVariables false
set_option linter.unusedSimpArgs false

abbrev iV (b : Nat) : Value := .iface 73 (.agg #[.pointer (some ⟨b, 0, none⟩)])
set_option maxRecDepth 100000 in
theorem val_intVal (b : Nat) (w : World) : Calls Tryz.prog 41 #[iV b] w fun e w' => e = .returned (.iface 68 (.pointer (some ⟨b, 0, none⟩))) ∧ w.alloc (.cells #[.pointer (some ⟨b, 0, none⟩)] 73) = w' := by
  have ta1 : ∀ w, (Instr.typeAssert (iV b) 46 88 true).run Tryz.prog w = .ok (.tuple #[.bool false, .bool false]) w := fun _ => by kernel_rfl
  have ta2 : ∀ w, (Instr.typeAssert (iV b) 46 89 true).run Tryz.prog w = .ok (.tuple #[.pointer none, .bool false]) w := fun _ => by kernel_rfl
  have ta3 : ∀ w, (Instr.typeAssert (iV b) 46 67 true).run Tryz.prog w = .ok (.tuple #[.int .i64 0, .bool false]) w := fun _ => by kernel_rfl
  have ta4 : ∀ w, (Instr.typeAssert (iV b) 46 73 true).run Tryz.prog w = .ok (.tuple #[.agg #[.pointer (some ⟨b, 0, none⟩)], .bool true]) w := fun _ => by kernel_rfl
  go_enter Tryz.func41, Tryz.ntmps41
  go_wp2
  go_ret
  exact ⟨rfl, rfl⟩
set_option maxRecDepth 100000 in
set_option maxHeartbeats 1000000 in
theorem parts_intVal (b : Nat) (A : Option Addr) (c : Nat) (ws : List Int) (hl : ws.length ≤ 1000) (w : World) (c0 : w.cell? ⟨b, 0, none⟩ = some (.bool false)) (c1 : w.cell? ⟨b, 1, none⟩ = some (.slice A ws.length c)) (hr : ReadsInt w .u64 A ws.length ws) :
    Calls Tryz.prog 23 #[iV b] w fun e w' => ∃ v d, e = .returned (.tuple #[.agg #[.bool false, v], d]) ∧ w'.ownsRow w.heap.size 48 1 v ws.length (nums .u64 ws) ∧ Below w.heap.size w w' := by
  have ta1 : ∀ w, (Instr.typeAssert (.iface 68 (.pointer (some ⟨b, 0, none⟩))) 20 2 true).run Tryz.prog w = .ok (.tuple #[.int .i64 0, .bool false]) w := fun _ => by kernel_rfl
  have ta2 : ∀ w, (Instr.typeAssert (.iface 68 (.pointer (some ⟨b, 0, none⟩))) 20 68 true).run Tryz.prog w = .ok (.tuple #[.pointer (some ⟨b, 0, none⟩), .bool true]) w := fun _ => by kernel_rfl
  have hb : b < w.heap.size := World.block_lt_of_cell? w _ c0
  have hbl : below0 false ws.length = false := by unfold below0 sgn; split <;> simp
  have hb2 : ∀ o, b < (w.alloc o).heap.size := fun o => by simp; omega
  have HN := Aside0.mk (fun (o o2 : Obj) => number_any b 0 false A ws.length c ws ((w.alloc o).alloc o2) (by omega) ((ca (hb2 o)).trans ((ca hb).trans c0)) ((ca (hb2 o)).trans ((ca hb).trans c1)) ((hr.below ((Below.refl _ _).alloc (Nat.le_refl _) _)).below ((Below.refl _ _).alloc (Nat.le_refl _) _)))
  rw [hbl] at HN
  clear c0 c1 hr hbl hb2
  go_enter Tryz.func23, Tryz.ntmps23
  go_wp2_with (go_at_call 41; (with_reducible refine (val_intVal b _).mono ?_); rintro e w' ⟨rfl, rfl⟩)
  refine (HN.out _ _).mono ?_
  rintro e w1 ⟨v, rfl, hown, hbel⟩
  have HO := Aside0.mk hown
  have HB := Aside0.mk hbel
  have hz := hbel.size
  simp only [World.size_alloc] at hz
  have e0 : ∀ i, w1.cell? ⟨w.heap.size, i, none⟩ = (#[.bool false, .slice none 0 0] : Array Value)[i]? := fun i => (hbel.cell (p := ⟨w.heap.size, i, none⟩) (by simp only [World.size_alloc]; omega)).trans ((ca (by simp only [World.size_alloc]; omega)).trans (cn rfl))
  have f0 : ∀ i, w1.frozen? ⟨w.heap.size, i, none⟩ = false := fun i => (hbel.frozen (p := ⟨w.heap.size, i, none⟩) (by simp only [World.size_alloc]; omega)).trans ((fa (by simp only [World.size_alloc]; omega)).trans (fn rfl))
  clear hown hbel
  obtain ⟨A1, c1, hv⟩ : ∃ A1 c1, v = .slice A1 ws.length c1 := own_slice HO.out
  rw [hv]
  rw [hv] at HO
  clear hv
  have hne : w.heap.size ≠ w1.heap.size := by omega
  have hlt : w.heap.size < w1.heap.size := by omega
  go_wp2
  refine bodyPost_ret (v := .tuple #[.agg #[.bool false, .slice A1 ws.length c1], .slice (some ⟨w1.heap.size, 0, none⟩) 1 1]) (by simp [results, Tryz.results23, go_sem, e0, hz, World.cell?_alloc_old, hne]) rfl ⟨_, _, rfl, ?_, ?_⟩
  · exact (own_lower (ownsRow_setCell_below (ownsRow_setCell_below HO.out (by simp only [World.size_alloc]; omega) _) (by simp only [World.size_alloc]; omega) _) (by simp only [World.size_alloc]; omega)).alloc _
  · exact below_alloc ((((Below.refl _ _).alloc (Nat.le_refl _) _).alloc (by simp) _).trans (HB.out.mono (by simp only [World.size_alloc]; omega)) |>.setCell (by simp) _ |>.setCell (by simp) _) _
set_option maxRecDepth 100000 in
theorem kind_intV (b : Nat) (w : World) : Calls Tryz.prog 294 #[.agg #[.pointer (some ⟨b, 0, none⟩)]] w fun e w' => e = .returned (.int .i64 3) ∧ w.alloc (.cells #[.pointer (some ⟨b, 0, none⟩)] 73) = w' := by
  go_enter Tryz.func294, Tryz.ntmps294
  go_wp2
  go_ret
  exact ⟨rfl, rfl⟩
set_option maxRecDepth 100000 in
set_option maxHeartbeats 1000000 in
theorem told_intVal (b : Nat) (A : Option Addr) (c : Nat) (ws : List Int) (hl : ws.length ≤ 1000) (w : World) (c0 : w.cell? ⟨b, 0, none⟩ = some (.bool false)) (c1 : w.cell? ⟨b, 1, none⟩ = some (.slice A ws.length c)) (hr : ReadsInt w .u64 A ws.length ws) :
    Calls Tryz.prog 12 #[iV b] w fun e w' => ∃ v, e = .returned (toldInt false v) ∧ w'.ownsRow w.heap.size 48 1 v ws.length (nums .u64 ws) ∧ Below w.heap.size w w' := by
  have hm : ∀ w, (method 444 73 (.agg #[.pointer (some ⟨b, 0, none⟩)]) "Kind").run Tryz.prog w = .ok (294, .agg #[.pointer (some ⟨b, 0, none⟩)]) w := fun _ => by kernel_rfl
  have hb : b < w.heap.size := World.block_lt_of_cell? w _ c0
  have HP := Aside0.mk (fun W (h : Below w.heap.size w W) => parts_intVal b A c ws hl W ((h.cell (p := ⟨b, 0, none⟩) hb).trans c0) ((h.cell (p := ⟨b, 1, none⟩) hb).trans c1) (hr.below h))
  clear c0 c1 hr hb
  go_enter Tryz.func12, Tryz.ntmps12
  go_wp2_with (go_at_call 294; refine (kind_intV b _).mono ?_; rintro e w' ⟨rfl, rfl⟩)
  refine (HP.out _ (below_alloc (below_alloc (below_alloc (below_alloc (Below.refl _ _) _) _) _) _)).mono ?_
  rintro e w1 ⟨v, d, rfl, hown, hbel⟩
  have HO := Aside0.mk hown
  have HB := Aside0.mk hbel
  have hz := hbel.size
  simp only [World.size_alloc] at hz
  have e0 : ∀ i, w1.cell? ⟨w.heap.size, i, none⟩ = (#[.int .i64 0, .bool false, .string { data := #[] }, .bool false, .slice none 0 0, .slice none 0 0, .bool false, .slice none 0 0, .slice none 0 0] : Array Value)[i]? := fun i => (hbel.cell (p := ⟨w.heap.size, i, none⟩) (by simp only [World.size_alloc]; omega)).trans ((ca (by simp only [World.size_alloc]; omega)).trans ((ca (by simp only [World.size_alloc]; omega)).trans ((ca (by simp only [World.size_alloc]; omega)).trans (cn rfl))))
  have e1 : ∀ i, w1.cell? ⟨w.heap.size + 1 + 1, i, none⟩ = (#[.int .i64 3, .bool false, .string { data := #[] }, .bool false, .slice none 0 0, .slice none 0 0, .bool false, .slice none 0 0, .slice none 0 0] : Array Value)[i]? := fun i => (hbel.cell (p := ⟨w.heap.size + 1 + 1, i, none⟩) (by simp only [World.size_alloc]; omega)).trans ((ca (by simp only [World.size_alloc]; omega)).trans (cn (by simp)))
  have f0 : ∀ i, w1.frozen? ⟨w.heap.size, i, none⟩ = false := fun i => (hbel.frozen (p := ⟨w.heap.size, i, none⟩) (by simp only [World.size_alloc]; omega)).trans ((fa (by simp only [World.size_alloc]; omega)).trans ((fa (by simp only [World.size_alloc]; omega)).trans ((fa (by simp only [World.size_alloc]; omega)).trans (fn rfl))))
  have f1 : ∀ i, w1.frozen? ⟨w.heap.size + 1 + 1, i, none⟩ = false := fun i => (hbel.frozen (p := ⟨w.heap.size + 1 + 1, i, none⟩) (by simp only [World.size_alloc]; omega)).trans ((fa (by simp only [World.size_alloc]; omega)).trans (fn (by simp)))
  clear hown hbel
  obtain ⟨A1, c1, hv⟩ : ∃ A1 c1, v = .slice A1 ws.length c1 := own_slice HO.out
  rw [hv]
  rw [hv] at HO
  clear hv
  go_wp2
  refine bodyPost_ret (v := toldInt false (.slice A1 ws.length c1)) (by simp [toldInt, results, Tryz.results12, go_sem, e0, e1]) rfl ⟨_, rfl, ?_, ?_⟩
  · have HO2 := HO.out
    simp only [World.size_alloc] at HO2
    refine own_lower (base := w.heap.size + 1 + 1 + 1 + 1) ?_ (by omega)
    repeat refine ownsRow_setCell_below ?_ (by simp only []; omega) _
    exact HO2
  · repeat refine Below.setCell ?_ (by simp only []; omega) _
    exact (below_alloc (below_alloc (below_alloc (below_alloc (Below.refl _ _) _) _) _) _).trans (HB.out.mono (by simp only [World.size_alloc]; omega))
end Go.Proofs.YtnhonclncjgjoaaGreatDoor

namespace Go.Proofs.YtnhonclncjgjoaaGreatDoor
open Go Go.RowKit Go.Proofs.YtnhonclncjgjoaaGreatDoorW.PrintWords Ps
set_option linter.unusedVariables false
set_option linter.unusedSimpArgs false

theorem valW_wordList (n : Int) : valW (wordList n) = n := by
  unfold wordList
  split
  · next h => subst h; rfl
  · simp [valW]
/-- What 'told' gives of a literal: unknown, or the integer. -/
def TdR (s : ByteArray) (w : World) (e : Ending) (w' : World) : Prop :=
  Below w.heap.size w w' ∧ ((numF (bytesOf s) = none ∧ e = .returned toldUnknown) ∨
    ∃ x A c ws, numF (bytesOf s) = some x ∧ Normal ws ∧ valW ws = x ∧ ws.length ≤ 100 ∧ e = .returned (toldInt false (.slice A ws.length c)) ∧ UV w' w.heap.size (.slice A ws.length c) ws)
theorem told_mi (s : ByteArray) (w w1 : World) (e : Ending) (h : MiR s w e w1) : ∃ V, e = .returned V ∧ Below w.heap.size w w1 ∧ Calls Tryz.prog 12 #[V] w1 (TdR s w1) := by
  obtain ⟨hb, ⟨hF, rfl⟩ | ⟨n, hF, h0, h1, rfl⟩ | ⟨x, gz, v, B, hF, rfl, hZ, ws, hrow, hN, hv, hl⟩⟩ := h
  · refine ⟨_, rfl, hb, (told_unknown w1).mono ?_⟩
    rintro e w2 ⟨rfl, hb2⟩
    exact ⟨hb2, .inl ⟨hF, rfl⟩⟩
  · refine ⟨_, rfl, hb, (told_int64 n h0 (by omega) w1).mono ?_⟩
    rintro e w2 ⟨v, rfl, ho, hb2⟩
    have hV := own_UV ho
    obtain ⟨A, c, rfl⟩ := Kd.V_slice hV
    exact ⟨hb2, .inr ⟨n, A, c, wordList n, hF, normal_wordList n h0 h1, valW_wordList n, Nat.le_trans (wordList_length n) (by decide), rfl, hV⟩⟩
  · rcases row_form hrow with ⟨rfl, h0, _⟩ | ⟨g, c, rfl⟩
    · have hw0 : ws = [] := List.eq_nil_of_length_eq_zero h0
      subst hw0
      refine ⟨_, rfl, hb, (told_intVal gz none 0 [] (by decide) w1 hZ.c0 hZ.c1 ⟨rfl, by decide, fun h => absurd h (by decide)⟩).mono ?_⟩
      rintro e w2 ⟨v, rfl, ho, hb2⟩
      have hV := own_UV ho
      obtain ⟨A, c, rfl⟩ := Kd.V_slice hV
      exact ⟨hb2, .inr ⟨x, A, c, [], hF, hN, hv, Nat.zero_le _, rfl, hV⟩⟩
    · refine ⟨_, rfl, hb, (told_intVal gz (some ⟨g, 0, none⟩) c ws (by omega) w1 hZ.c0 hZ.c1 (own_reads' hrow)).mono ?_⟩
      rintro e w2 ⟨v, rfl, ho, hb2⟩
      have hV := own_UV ho
      obtain ⟨A, c, rfl⟩ := Kd.V_slice hV
      exact ⟨hb2, .inr ⟨x, A, c, ws, hF, hN, hv, hl, rfl, hV⟩⟩
set_option maxRecDepth 100000 in
set_option maxHeartbeats 4000000 in
theorem literal_all (s : ByteArray) (w : World) (hM : ∀ W, Below w.heap.size w W → Calls Tryz.prog 13 #[.string s, .int .i64 5, .int .u64 0] W (MiR s W)) :
    Calls Tryz.prog 6 #[.string s, .int .i64 0] w (TdR s w) := by
  have HM := Aside0.mk hM
  clear hM
  go_enter Tryz.func6, Tryz.ntmps6
  go_wp2_with fail
  refine (HM.out _ (below_alloc (below_alloc (Below.refl _ _) _) _)).mono ?_
  rintro e w1 hmi
  obtain ⟨V, rfl, hb1, htd⟩ := told_mi s _ w1 e hmi
  have HT := Aside0.mk htd
  clear hmi htd
  have HB1 := Aside0.mk (show Below w.heap.size w w1 from (below_alloc (below_alloc (Below.refl _ _) _) _).trans (hb1.mono (by simp <;> omega)))
  have hz1 := hb1.size
  simp only [World.size_alloc] at hz1
  have e1 : ∀ i, w1.cell? ⟨w.heap.size, i, none⟩ = (#[.int .i64 0, .bool false, .string { data := #[] }, .bool false, .slice none 0 0, .slice none 0 0, .bool false, .slice none 0 0, .slice none 0 0] : Array Value)[i]? := fun i => (hb1.cell (p := ⟨w.heap.size, i, none⟩) (by simp only [World.size_alloc]; omega)).trans ((ca (by simp)).trans (cn rfl))
  have f1 : ∀ i, w1.frozen? ⟨w.heap.size, i, none⟩ = false := fun i => (hb1.frozen (p := ⟨w.heap.size, i, none⟩) (by simp only [World.size_alloc]; omega)).trans ((fa (by simp)).trans (fn rfl))
  have HE1 := Aside0.mk e1
  have HF1 := Aside0.mk f1
  clear hb1 e1 f1
  go_wp2_with fail
  refine HT.out.mono ?_
  rintro e w2 ⟨hb2, hres⟩
  have HB2 := Aside0.mk (HB1.out.trans (hb2.mono (by omega)))
  have hz2 := hb2.size
  have e2 : ∀ i, w2.cell? ⟨w.heap.size, i, none⟩ = (#[.int .i64 0, .bool false, .string { data := #[] }, .bool false, .slice none 0 0, .slice none 0 0, .bool false, .slice none 0 0, .slice none 0 0] : Array Value)[i]? := fun i => (hb2.cell (p := ⟨w.heap.size, i, none⟩) (by simp only []; omega)).trans (HE1.out i)
  have f2 : ∀ i, w2.frozen? ⟨w.heap.size, i, none⟩ = false := fun i => (hb2.frozen (p := ⟨w.heap.size, i, none⟩) (by simp only []; omega)).trans (HF1.out i)
  clear hb2 HE1 HF1
  rcases hres with ⟨hF, rfl⟩ | ⟨x, A, c, ws, hF, hN, hv, hl, rfl, hV⟩
  · have HF := Aside0.mk hF
    clear hF
    unfold toldUnknown
    go_wp2
    refine bodyPost_ret (v := toldUnknown) (by simp [toldUnknown, results, Tryz.results6, go_sem, e2, f2]) rfl ⟨?_, .inl ⟨HF.out, rfl⟩⟩
    exact (((((((((HB2.out.setCell (by simp) _).setCell (by simp) _).setCell (by simp) _).setCell (by simp) _).setCell (by simp) _).setCell (by simp) _).setCell (by simp) _).setCell (by simp) _).setCell (by simp) _)
  · have HF := Aside0.mk (And.intro hF (And.intro hN (And.intro hv (And.intro hl trivial))))
    have HV := Aside0.mk (hV.lower (B' := w.heap.size + 1) (by omega))
    clear hF hN hv hl hV
    unfold toldInt
    go_wp2
    refine bodyPost_ret (v := toldInt false (.slice A ws.length c)) (by simp [toldInt, results, Tryz.results6, go_sem, e2, f2]) rfl ⟨?_, .inr ⟨x, A, c, ws, HF.out.1, HF.out.2.1, HF.out.2.2.1, HF.out.2.2.2.1, rfl, ?_⟩⟩
    · exact (((((((((HB2.out.setCell (by simp) _).setCell (by simp) _).setCell (by simp) _).setCell (by simp) _).setCell (by simp) _).setCell (by simp) _).setCell (by simp) _).setCell (by simp) _).setCell (by simp) _)
    · refine UV.lower (B := w.heap.size + 1) ?_ (by omega)
      exact (UV.far (UV.far (UV.far (UV.far (UV.far (UV.far (UV.far (UV.far (UV.far HV.out (Nat.lt_succ_self _)) (Nat.lt_succ_self _)) (Nat.lt_succ_self _)) (Nat.lt_succ_self _)) (Nat.lt_succ_self _)) (Nat.lt_succ_self _)) (Nat.lt_succ_self _)) (Nat.lt_succ_self _)) (Nat.lt_succ_self _))
end Go.Proofs.YtnhonclncjgjoaaGreatDoor

namespace Go.Proofs.YtnhonclncjgjoaaGreatDoor
open Go Go.RowKit Go.Proofs.YtnhonclncjgjoaaGreatDoorW.PrintWords Ps
set_option linter.unusedVariables false
set_option linter.unusedSimpArgs false

set_option maxRecDepth 100000 in
set_option maxHeartbeats 400000 in
theorem fi_long (s : ByteArray) (h : 60 < s.size) (hm : s.size ≤ maxLen) (w : World) : Calls Tryz.prog 3 #[.string s] w fun e w' => e = .returned (.bool true) ∧ Below w.heap.size w w' := by
  have h1 : (60 : Int) < (s.size : Int) := by omega
  clear h hm
  go_enter Tryz.func3, Tryz.ntmps3
  go_wp2
  all_goals
    go_ret
    exact ⟨rfl, Below.refl _ _⟩
set_option maxRecDepth 100000 in
set_option maxHeartbeats 400000 in
theorem fi_signed (s : ByteArray) (h : s.size ≤ 60) (w : World) (hS : laws_signed.f s = some true) : Calls Tryz.prog 3 #[.string s] w fun e w' => e = .returned (.bool true) ∧ Below w.heap.size w w' := by
  have h1 : (s.size : Int) ≤ 60 := by omega
  have HS := Aside0.mk (fun w => laws_signed.calls s true w hS)
  clear h hS
  go_enter Tryz.func3, Tryz.ntmps3
  go_wp2_with fail
  refine (HS.out _).mono ?_
  rintro e w1 ⟨rfl, hd⟩
  have HD := Aside0.mk (Drawn0.below hd)
  clear hd
  go_wp2
  go_ret
  exact ⟨rfl, HD.out⟩
abbrev CallT (s : ByteArray) (w : World) : Prop := ∀ W, Below w.heap.size w W → Calls Tryz.prog 6 #[.string s, .int .i64 0] W (TdR s W)
set_option maxRecDepth 100000 in
set_option maxHeartbeats 1000000 in
theorem fi_none (s : ByteArray) (h : s.size ≤ 60) (w : World) (hS : laws_signed.f s = some false) (hF : numF (bytesOf s) = none) (v : List Int) (hI : spec_IntOf.f 20000 s = some (v, false)) (hL : CallT s w) : Calls Tryz.prog 3 #[.string s] w fun e w' => e = .returned (.bool true) ∧ Below w.heap.size w w' := by
  have h1 : (s.size : Int) ≤ 60 := by omega
  have HS := Aside0.mk (fun w => laws_signed.calls s false w hS)
  have HI := Aside0.mk (fun w => spec_IntOf.calls 20000 s v false w hI)
  have HL := Aside0.mk hL
  have HF := Aside0.mk hF
  clear h hS hI hL hF
  go_enter Tryz.func3, Tryz.ntmps3
  go_wp2_with fail
  refine (HS.out _).mono ?_
  rintro e w1 ⟨rfl, hd⟩
  have HD := Aside0.mk (Drawn0.below hd)
  clear hd
  go_wp2_with fail
  refine (HI.out _).mono ?_
  rintro e w2 ⟨v0, rfl, hv, hb⟩
  obtain ⟨A1, c1, rfl⟩ := Kd.V_slice hv
  have HD2 := Aside0.mk (HD.out.trans (hb.mono HD.out.size))
  clear hv hb HI
  go_wp2_with fail
  refine (HL.out _ HD2.out).mono ?_
  rintro e w3 ⟨hb, hres⟩
  have HD3 := Aside0.mk (HD2.out.trans (hb.mono HD2.out.size))
  clear hb
  rcases hres with ⟨_, rfl⟩ | ⟨x, A, c, ws, hx, _⟩
  · unfold toldUnknown
    go_wp2_with (go_at_call 7; refine (alive_any _).mono ?_; rintro e w4 ⟨rfl, hb4⟩; have H4 := Aside0.mk hb4; clear hb4)
    go_ret
    exact ⟨rfl, (below_alloc HD3.out _).trans (H4.out.mono (by have := HD3.out.size; simp; omega))⟩
  · rw [HF.out] at hx
    cases hx
/-- What the region of the last test keeps: the literal's cells, its words, the reference's digits. -/
structure KeepI (w : World) (g : Nat) (ws : List Int) (A : Option Addr) (c n : Nat) (L : List Int) (A1 : Option Addr) (m : Nat) (W : World) : Prop where
  below : Below w.heap.size w W
  uv : UV W (w.heap.size) (.slice A ws.length c) ws
  dg : Kd.C (Kd.int .i64) W A1 m L
  lo : w.heap.size ≤ g
  hi : g < W.heap.size
  cell : ∀ i, W.cell? ⟨g, i, none⟩ = (#[.int .i64 3, .bool false, .string { data := #[] }, .bool false, .slice A n c, .slice none 0 0, .bool false, .slice none 0 0, .slice none 0 0] : Array Value)[i]?
variable {w W W' : World} {g : Nat} {ws : List Int} {A : Option Addr} {c n : Nat} {L : List Int} {A1 : Option Addr} {m : Nat}
theorem KeepI.step (h : KeepI w g ws A c n L A1 m W) (hb : Below W.heap.size W W') : KeepI w g ws A c n L A1 m W' :=
  ⟨h.below.trans (hb.mono h.below.size), h.uv.below hb, Kd.C_below h.dg hb, h.lo, Nat.lt_of_lt_of_le h.hi hb.size, fun i => (hb.cell (p := ⟨g, i, none⟩) h.hi).trans (h.cell i)⟩
abbrev SQ (w : World) (g : Nat) (ws : List Int) (A : Option Addr) (c n : Nat) (L : List Int) (A1 : Option Addr) (m : Nat) (W : World) : Prop := W.cell? ⟨g, 0, none⟩ = some (.int .i64 3) ∧ W.cell? ⟨g, 1, none⟩ = some (.bool false) ∧ W.cell? ⟨g, 2, none⟩ = some (.string { data := #[] }) ∧ W.cell? ⟨g, 3, none⟩ = some (.bool false) ∧ W.cell? ⟨g, 4, none⟩ = some (.slice A n c) ∧ W.cell? ⟨g, 5, none⟩ = some (.slice none 0 0) ∧ W.cell? ⟨g, 6, none⟩ = some (.bool false) ∧ W.cell? ⟨g, 7, none⟩ = some (.slice none 0 0) ∧ W.cell? ⟨g, 8, none⟩ = some (.slice none 0 0) ∧ Aside0 (KeepI w g ws A c n L A1 m W)
theorem SQ.mk (h : KeepI w g ws A c n L A1 m W) : SQ w g ws A c n L A1 m W := ⟨h.cell 0, h.cell 1, h.cell 2, h.cell 3, h.cell 4, h.cell 5, h.cell 6, h.cell 7, h.cell 8, ⟨h⟩⟩
theorem SQ.out (h : SQ w g ws A c n L A1 m W) : KeepI w g ws A c n L A1 m W := h.2.2.2.2.2.2.2.2.2.out
theorem SQ.step (hb : Below W.heap.size W W') (h : SQ w g ws A c n L A1 m W) : SQ w g ws A c n L A1 m W' := SQ.mk (h.out.step hb)
theorem SQ.dr (h : SQ w g ws A c n L A1 m W) : SQ w g ws A c n L A1 m W.drew := SQ.step (below_drew (Below.refl _ _)) h
/-- The second digits. -/
def RQ (W : World) (A2 : Option Addr) (c2 : Nat) : Prop := 1 ≤ c2 ∧ Kd.C (Kd.int .i64) W A2 1 [1]
theorem hwh (A1 : Option Addr) (c1 m : Nat) (W : World) :
    Calls Tryz.prog 9 #[.bool false, .slice A1 m c1] W fun e w' => ∃ A2 c2, e = .returned (.agg #[.bool false, .slice A1 m c1, .slice A2 1 c2]) ∧ Aside0 (RQ w' A2 c2) ∧ Below W.heap.size W w' := by
  refine (whole_any false A1 m c1 W).mono ?_
  rintro e w' ⟨v, rfl, hd, hb⟩
  obtain ⟨A2, c2, rfl⟩ := hd.slice
  have r := hd.reads
  exact ⟨A2, c2, rfl, ⟨r.2.1, r.2.2⟩, hb⟩
theorem hisi (w : World) (g : Nat) (ws : List Int) (hN : Normal ws) (hl : ws.length ≤ 900) (L : List Int) (hL : trimL (digs ws) = L) (hll : L.length ≤ 10000) (A : Option Addr) (c n m : Nat) (hn : ws.length = n) (hm : L.length = m) (W : World) (A1 : Option Addr) (c1 : Nat) (hc1 : m ≤ c1) (A2 : Option Addr) (c2 : Nat)
    (hk : SQ w g ws A c n L A1 m W) (hr : Aside0 (RQ W A2 c2)) :
    Calls Tryz.prog 8 #[.agg #[.int .i64 3, .bool false, .string { data := #[] }, .bool false, .slice A n c, .slice none 0 0, .bool false, .slice none 0 0, .slice none 0 0], .agg #[.bool false, .slice A1 m c1, .slice A2 1 c2]] W fun e w' => e = .returned (.bool true) ∧ Below W.heap.size W w' := by
  subst hn hm
  obtain ⟨⟨hc2, r2⟩⟩ := hr
  have hv := hk.out.uv
  exact isInt_any false A c ws W hN hl rfl (Kd.V_reads' hv).2.2 (Kd.V_reads' hv).2.1 L hL hll A1 c1 hk.out.dg hc1 A2 c2 r2 hc2
set_option maxRecDepth 100000 in
set_option maxHeartbeats 16000000 in
theorem fi_some (s : ByteArray) (h : s.size ≤ 60) (w : World) (hS : laws_signed.f s = some false) (x : Int) (hF : numF (bytesOf s) = some x) (L : List Int) (hI : spec_IntOf.f 20000 s = some (L, true)) (hD : NumD L x 200) (hL : CallT s w) : Calls Tryz.prog 3 #[.string s] w fun e w' => e = .returned (.bool true) ∧ Below w.heap.size w w' := by
  have h1 : (s.size : Int) ≤ 60 := by omega
  have HS := Aside0.mk (fun w => laws_signed.calls s false w hS)
  have HI := Aside0.mk (fun w => spec_IntOf.calls 20000 s L true w hI)
  have HL := Aside0.mk hL
  have HF := Aside0.mk (And.intro hF hD)
  clear h hS hI hL hF hD
  go_enter Tryz.func3, Tryz.ntmps3
  go_wp2_with fail
  refine (HS.out _).mono ?_
  rintro e w1 ⟨rfl, hd⟩
  have HD := Aside0.mk (Drawn0.below hd)
  clear hd
  go_wp2_with fail
  refine (HI.out _).mono ?_
  rintro e w2 ⟨v0, rfl, hv, hb⟩
  obtain ⟨A1, c1, rfl⟩ := Kd.V_slice hv
  have hr1 := Kd.V_reads' hv
  have HR1 := Aside0.mk hr1
  have HD2 := Aside0.mk (HD.out.trans (hb.mono HD.out.size))
  clear hv hb HI hr1
  obtain ⟨m, hm⟩ : ∃ m, L.length = m := ⟨_, rfl⟩
  rw [hm]
  have HM := Aside0.mk hm
  clear hm
  go_wp2_with fail
  refine (HL.out _ HD2.out).mono ?_
  rintro e w3 ⟨hb, hres⟩
  rcases hres with ⟨hx, _⟩ | ⟨y, A, c, ws, hx, hN, hvw, hl, rfl, hu⟩
  · rw [HF.out.1] at hx
    cases hx
  · have hxy : x = y := by rw [HF.out.1] at hx; exact Option.some.inj hx
    subst hxy
    have hLd : trimL (digs ws) = L := valD_inj _ _ (digs_range ws) HF.out.2.1 (trimL_idem _) HF.out.2.2.1 (by rw [valD_trim, valD_digs hN.1, hvw, HF.out.2.2.2.1])
    have hb3 : Below w.heap.size w w3 := HD2.out.trans (hb.mono HD2.out.size)
    have hu2 := hu.lower HD2.out.size
    have hdg : Kd.C (Kd.int .i64) w3 A1 m L := by have := Kd.C_below HR1.out.2.2 hb; rw [HM.out] at this; exact this
    obtain ⟨n, hn⟩ : ∃ n, ws.length = n := ⟨_, rfl⟩
    have hsz := hb3.size
    have HU := Aside0.mk (And.intro hb3 (And.intro hu2 hdg))
    have HW := Aside0.mk (fun W => hwh A1 c1 m W)
    have HII := Aside0.mk (fun W => hisi w w3.heap.size ws hN (by omega) L hLd (by have := HF.out.2.2.2.2; omega) A c n m hn HM.out W A1 c1 (by have := HR1.out.2.1; rw [HM.out] at this; exact this))
    unfold toldInt
    rw [hn]
    clear hb hx hN hvw hl hu hLd hb3 hu2 hdg hn HL HS HD2 HD
    go_wp2
    have HK := Aside0.mk (SQ.mk (w := w) (g := w3.heap.size) (ws := ws) (A := A) (c := c) (n := n) (L := L) (A1 := A1) (m := m) (W := w3.alloc (.cells #[.int .i64 3, .bool false, .string { data := #[] }, .bool false, .slice A n c, .slice none 0 0, .bool false, .slice none 0 0, .slice none 0 0] 31)) ⟨below_alloc HU.out.1 _, HU.out.2.1.below (below_alloc (Below.refl _ _) _), Kd.C_below HU.out.2.2 (below_alloc (Below.refl _ _) _), HU.out.1.size, by simp, fun i => cn rfl⟩)
    go_cut [2] (fun v2 wc => v2 = .bool true ∧ Aside0 (Below w.heap.size w wc))
    case first =>
      go_region_held3 (fun W => W.cell? ⟨w3.heap.size, 0, none⟩ = some (.int .i64 3) ∧ W.cell? ⟨w3.heap.size, 1, none⟩ = some (.bool false) ∧ W.cell? ⟨w3.heap.size, 2, none⟩ = some (.string { data := #[] }) ∧ W.cell? ⟨w3.heap.size, 3, none⟩ = some (.bool false) ∧ W.cell? ⟨w3.heap.size, 4, none⟩ = some (.slice A n c) ∧ W.cell? ⟨w3.heap.size, 5, none⟩ = some (.slice none 0 0) ∧ W.cell? ⟨w3.heap.size, 6, none⟩ = some (.bool false) ∧ W.cell? ⟨w3.heap.size, 7, none⟩ = some (.slice none 0 0) ∧ W.cell? ⟨w3.heap.size, 8, none⟩ = some (.slice none 0 0) ∧ Aside0 (KeepI w w3.heap.size ws A c n L A1 m W))
        (first | exact SQ.step (by with_reducible assumption) (by with_reducible assumption) | exact SQ.dr HK.out | exact HK.out)
        (first | (go_at_call 9; (with_reducible refine (HW.out _).mono ?_); rintro e w' ⟨A2, c2, rfl, hr4, hb⟩; have hsi := SQ.step hb (by with_reducible assumption); obtain ⟨hcl, hfr⟩ := bcell hb; have hz := hb.size; (try simp only [World.size_alloc, World.size_drew] at hz); (try replace hz := Nat.lt_of_succ_le hz)) | (go_at_call 8; (with_reducible refine (HII.out _ _ _ (by with_reducible assumption) (by with_reducible assumption)).mono ?_); rintro e w' ⟨rfl, hb⟩; have hsi := SQ.step hb (by with_reducible assumption); obtain ⟨hcl, hfr⟩ := bcell hb; have hz := hb.size; (try simp only [World.size_alloc, World.size_drew] at hz); (try replace hz := Nat.lt_of_succ_le hz)))
      all_goals (go_wp2_with fail; go_meet)
      all_goals exact ⟨rfl, ⟨(SQ.out hsi).below⟩⟩
    case rest =>
      obtain ⟨rfl, HW⟩ := hcut
      go_wp2
      go_ret
      exact ⟨rfl, HW.out⟩
theorem signed_total (s : ByteArray) : ∃ r, laws_signed.f s = some r ∧ (r = false → (bt s 0 == 45) = false ∧ (bt s 0 == 43) = false) := by
  unfold laws_signed.f
  by_cases h : (s.size : Int) > 0
  · rw [if_pos h, if_pos (by omega)]
    by_cases h1 : bt s 0 = 43
    · rw [if_pos h1]; exact ⟨true, rfl, fun h => by cases h⟩
    · rw [if_neg h1]
      by_cases h2 : bt s 0 = 45
      · rw [if_pos h2]; exact ⟨true, rfl, fun h => by cases h⟩
      · rw [if_neg h2]
        have hx : (bt s 0 == 45) = false ∧ (bt s 0 == 43) = false := ⟨by rw [beq_eq_false_iff_ne]; exact h2, by rw [beq_eq_false_iff_ne]; exact h1⟩
        repeat' split
        all_goals exact ⟨_, rfl, fun _ => hx⟩
  · rw [if_neg h]
    have hb : bt s 0 = 0 := by unfold bt; rw [dif_neg (by intro hh; omega)]
    have hx : (bt s 0 == 45) = false ∧ (bt s 0 == 43) = false := by rw [hb]; decide
    repeat' split
    all_goals exact ⟨_, rfl, fun _ => hx⟩
/-- The law on literals of integers answers true at every text. -/
theorem fnInt_any (s : ByteArray) (hm : s.size ≤ maxLen) (t1 : TypeId) (v1 : Value) (t2 : TypeId) (v2 : Value) (a : Addr) (ti : TypeId) (vi : Value) (tn : TypeId) (vn : Value) (w : World) (hS : SErrs w t1 v1 t2 v2) (hE : Errs w a ti vi tn vn) :
    Calls Tryz.prog 3 #[.string s] w fun e w' => e = .returned (.bool true) ∧ Below w.heap.size w w' := by
  by_cases hl : 60 < s.size
  · exact fi_long s hl hm w
  have hs : s.size ≤ 60 := by omega
  obtain ⟨r, hr, hrf⟩ := signed_total s
  cases r with
  | true => exact fi_signed s hs w hr
  | false =>
    obtain ⟨h45, h43⟩ := hrf rfl
    have hL : CallT s w := by
      intro W hb
      refine literal_all s W (fun W2 hb2 => ?_)
      have hz := hb.size
      have k : ∀ g, g < w.heap.size → W2.cell? ⟨g, 0, none⟩ = w.cell? ⟨g, 0, none⟩ := fun g hg => (hb2.cell (p := ⟨g, 0, none⟩) (Nat.lt_of_lt_of_le hg hz)).trans (hb.cell (p := ⟨g, 0, none⟩) hg)
      have g1 := World.block_lt_of_cell? w _ hS.syn
      have g2 := World.block_lt_of_cell? w _ hS.rng
      have gl := hE.low
      exact mfl_all s hs h45 h43 t1 v1 t2 v2 a ti vi tn vn W2 ⟨(k _ g1).trans hS.syn, (k _ g2).trans hS.rng⟩ ⟨(k _ gl.1).trans hE.eof, (k _ gl.2.1).trans hE.inv, (k _ gl.2.2).trans hE.non⟩
    obtain ⟨v, ok, x, hI, hD, ho⟩ := intOf_ev s hs
    rcases ho with ⟨hF, rfl⟩ | ⟨hF, rfl⟩
    · exact fi_some s hs w hr x hF v hI hD hL
    · exact fi_none s hs w hr hF v hI hL
end Go.Proofs.YtnhonclncjgjoaaGreatDoor

/- constant.stringVal as a sum of two texts (for FnTextJoined). -/
import Derived.Test.YtlfmgidpdmmpkaaGreatDoorStr
import Derived.LaidEql
namespace Go.Proofs.YtlfmgidpdmmpkaaGreatDoor
open Go Go.RowKit Go.Proofs.YtlfmgidpdmmpkaaGreatDoorW.PrintWords Go.MuLone
set_option linter.unusedVariables false
set_option linter.unusedSimpArgs false

theorem str1 (w : World) (s : ByteArray) : ∀ (j : Nat) (u : Value), [Value.string s][j]? = some u → (w.alloc (.cells #[.string s] 9)).cell? ((⟨w.heap.size, 0, none⟩ : Addr).add j) = some u := by
  intro j u hj
  match j, hj with
  | 0, hj => simp at hj; subst hj; exact cn rfl
  | (j + 1), hj => simp at hj
theorem str1c (s : ByteArray) : ∀ u ∈ [Value.string s], u.oneCell' = true := by
  intro u hu
  simp at hu
  subst hu
  rfl
set_option maxRecDepth 100000 in
set_option maxHeartbeats 400000 in
/-- A text that is no sum adds itself behind the row. -/
theorem ar_leaf (b : Nat) (s : ByteArray) (w : World) (h2 : w.cell? ⟨b, 2, none⟩ = some (.string s)) (h4 : w.cell? ⟨b, 4, none⟩ = some (.pointer none)) (B : Nat) (w0 : World) (v : Value) (acc : List Value) (hB : Below B w0 w) (hw : B ≤ w.heap.size) (ho : w.ownsRow B 9 1 v acc.length acc) (hn : acc.length ≤ 1000) :
    Calls Tryz.prog 140 #[.pointer (some ⟨b, 0, none⟩), v] w fun e w' => ∃ v', e = .returned v' ∧ w'.ownsRow B 9 1 v' (acc.length + 1) (acc ++ [.string s]) ∧ Below B w0 w' := by
  have HO := Aside0.mk ho
  have HB := Aside0.mk hB
  have HW := Aside0.mk hw
  have HN := Aside0.mk (show acc.length + 1 ≤ maxLen ∧ (acc.length + 1) * 16 ≤ 140737488355328 by unfold maxLen; omega)
  have hinfo : (Tryz.prog.info? 9).map (fun i => (i.zero, i.size, i.bytes)) = some (some (.string ⟨#[]⟩), 1, 16) := by kernel_rfl
  obtain ⟨i0, hi0, hz00, hz01, hz02⟩ := info_parts hinfo
  have hpn : ∀ W, (binOp .neq 100 (.pointer (some ⟨b, 0, none⟩)) (.pointer (some ⟨b, 0, none⟩))).run Tryz.prog W = .ok (.bool false) W := by
    intro W
    obtain ⟨j, hte⟩ : ∃ j, Tryz.prog.info? 108 = some j := Option.isSome_iff_exists.1 (by kernel_rfl)
    obtain ⟨d, hd⟩ : ∃ d, Op.maxDepth = d + 1 := ⟨Op.maxDepth - 1, by decide⟩
    simp [binOp, Op.equal, hd, Op.equalIn, run_underlying Tryz.underlying100, run_sameAddr_same, sizeOf, hte, go_sem]
  clear ho hB hw hn hinfo
  go_enter Tryz.func140, Tryz.ntmps140
  go_wp2
  go_loopw [1, 5] (fun sL sY wr => sL = v ∧ sY = .pointer (some ⟨b, 0, none⟩) ∧ wr = w) (fun _ _ _ => 0)
  case atStart => exact ⟨rfl, rfl, rfl⟩
  case round =>
    obtain ⟨rfl, rfl, rfl⟩ := hrel
    have HBS := Aside0.mk (show ∀ o, B ≤ (wr.alloc o).heap.size from fun o => by have := HW.out; simp only [World.size_alloc]; omega)
    go_wp2_with (at_builtin; refine wpList_append_own _ rfl _ _ 187 rfl B 9 i0 (.string ⟨#[]⟩) 1 16 Tryz.underlying187 hi0 hz00 hz01 hz02 rfl (by decide) _ _ _ rfl (HO.out.alloc _) ⟨wr.heap.size, 0, none⟩ 1 1 [.string s] rfl rfl (str1 wr s) (str1c s) HN.out.1 HN.out.2 (HBS.out _) ?_; intro v' w2 hown2 hgrow2 _; have HO2 := Aside0.mk hown2; have HB2 := Aside0.mk (show Below B w0 w2 from (HB.out.alloc HW.out _).grown hgrow2 (HBS.out _) (fun kk hk => (HO.out.lt kk hk).1)); clear hown2 hgrow2)
    go_ret
    exact ⟨_, rfl, HO2.out, HB2.out⟩

theorem ar_leaf2 (b : Nat) (s : ByteArray) (w : World) (h : StrAt w b s) :
    Calls Tryz.prog 140 #[.pointer (some ⟨b, 0, none⟩), .slice none 0 0] (w.setCell ⟨b, 0, none⟩ (.int .i32 1)) fun e w' => ∃ v', e = .returned v' ∧ w'.ownsRow w.heap.size 9 1 v' 1 [.string s] ∧ Below w.heap.size (w.setCell ⟨b, 0, none⟩ (.int .i32 1)) w' :=
  ar_leaf b s _ ((World.cell?_setCell_other _ _ _ _ (by simp)).trans h.c2) ((World.cell?_setCell_other _ _ _ _ (by simp)).trans h.c4) w.heap.size _ (.slice none 0 0) [] (Below.refl _ _) (by simp) (World.ownsRow_nil _ _ _ _) (by simp)
/-- A block of plain cells. -/
def CellsAt (w : World) (b : Nat) : Prop := ∃ cs ty, w.heap[b]? = some (.cells cs ty (0, 0))
theorem CellsAt.set {w : World} {b : Nat} (h : CellsAt w b) (g i : Nat) (v : Value) : CellsAt (w.setCell ⟨g, i, none⟩ v) b := by
  obtain ⟨cs, ty, h⟩ := h
  by_cases e : b = g
  · subst e
    exact ⟨_, ty, Go.heap_setCell_same w b i cs ty v h⟩
  · exact ⟨cs, ty, (Below.heap_setCell w ⟨g, i, none⟩ v b e).trans h⟩
theorem CellsAt.below {B : Nat} {w w' : World} {b : Nat} (h : CellsAt w b) (hb : Below B w w') (hB : b < B) : CellsAt w' b := by
  obtain ⟨cs, ty, h⟩ := h
  exact ⟨cs, ty, (hb.block b hB).trans h⟩
theorem ptr_neq {a x : Nat} (hne : a ≠ x) (W : World) (ha : CellsAt W a) (hx : CellsAt W x) :
    (binOp .neq 100 (.pointer (some ⟨a, 0, none⟩)) (.pointer (some ⟨x, 0, none⟩))).run Tryz.prog W = .ok (.bool true) W := by
  obtain ⟨ca, ta, ha⟩ := ha
  obtain ⟨cx, tx, hx⟩ := hx
  obtain ⟨j, hte⟩ : ∃ j, Tryz.prog.info? 108 = some j := Option.isSome_iff_exists.1 (by kernel_rfl)
  obtain ⟨d, hd⟩ : ∃ d, Op.maxDepth = d + 1 := ⟨Op.maxDepth - 1, by decide⟩
  have h5 : Tryz.t108.size = 5 := by kernel_rfl
  have hsz : (Tryz.t108.size = 0) = False := by rw [h5]; simp
  clear h5
  simp [binOp, Op.equal, hd, Op.equalIn, run_underlying Tryz.underlying100, run_sameAddr_other W (a := ⟨a, 0, none⟩) (b := ⟨x, 0, none⟩) (by simp [hne]) ha hx, sizeOf, hte, hsz, go_sem]
/-- A text that is the sum of two texts that are none, its lock free. -/
structure NodeAt (w : World) (x a b : Nat) (s t : ByteArray) : Prop where
  c0 : w.cell? ⟨x, 0, none⟩ = some (.int .i32 0)
  c2 : w.cell? ⟨x, 2, none⟩ = some (.string ⟨#[]⟩)
  c3 : w.cell? ⟨x, 3, none⟩ = some (.pointer (some ⟨a, 0, none⟩))
  c4 : w.cell? ⟨x, 4, none⟩ = some (.pointer (some ⟨b, 0, none⟩))
  z0 : w.frozen? ⟨x, 0, none⟩ = false
  z2 : w.frozen? ⟨x, 2, none⟩ = false
  z3 : w.frozen? ⟨x, 3, none⟩ = false
  z4 : w.frozen? ⟨x, 4, none⟩ = false
  xa : x ≠ a
  xb : x ≠ b
  ab : a ≠ b
  sa : StrAt w a s
  sb : StrAt w b t
/-- Three old blocks apart, what was there stands as it was. -/
structure Kept3 (x a b : Nat) (w w' : World) : Prop where
  os : w'.os = w.os
  tape : w'.tape = w.tape
  output : w'.output = w.output
  size : w.heap.size ≤ w'.heap.size
  block : ∀ k, k < w.heap.size → k ≠ x → k ≠ a → k ≠ b → w'.heap[k]? = w.heap[k]?
theorem Kept3.refl (x a b : Nat) (w : World) : Kept3 x a b w w := ⟨rfl, rfl, rfl, Nat.le_refl _, fun _ _ _ _ _ => rfl⟩
theorem Kept3.set {x a b : Nat} {w w' : World} (h : Kept3 x a b w w') (g i : Nat) (v : Value) (hg : g = x ∨ g = a ∨ g = b) : Kept3 x a b w (w'.setCell ⟨g, i, none⟩ v) :=
  have k := (Below.refl 0 w').setCell (p := ⟨g, i, none⟩) (Nat.zero_le _) v
  ⟨k.os.trans h.os, k.tape.trans h.tape, k.output.trans h.output, Nat.le_trans h.size k.size, fun j hj hx ha hb => (Below.heap_setCell w' ⟨g, i, none⟩ v j (by simp only []; omega)).trans (h.block j hj hx ha hb)⟩
theorem Kept3.below {x a b : Nat} {w w1 w' : World} {B : Nat} (h : Kept3 x a b w w1) (hB : w.heap.size ≤ B) (hb : Below B w1 w') : Kept3 x a b w w' :=
  ⟨hb.os.trans h.os, hb.tape.trans h.tape, hb.output.trans h.output, Nat.le_trans h.size hb.size, fun k hk hx ha hy => (hb.block k (by omega)).trans (h.block k hk hx ha hy)⟩
theorem Kept3.trans {x a b : Nat} {w w1 w' : World} (h : Kept3 x a b w w1) (k : Kept3 x a b w1 w') : Kept3 x a b w w' :=
  ⟨k.os.trans h.os, k.tape.trans h.tape, k.output.trans h.output, Nat.le_trans h.size k.size, fun j hj hx ha hy => (k.block j (by have := h.size; omega) hx ha hy).trans (h.block j hj hx ha hy)⟩
theorem Kept3.base {x a b : Nat} {w w' : World} (h : Kept3 x a b w w') {B : Nat} {w0 : World} (h0 : Below B w0 w) (hx : B ≤ x) (ha : B ≤ a) (hb : B ≤ b) (hw : B ≤ w.heap.size) : Below B w0 w' :=
  ⟨h.os.trans h0.os, h.tape.trans h0.tape, h.output.trans h0.output, Nat.le_trans h0.size h.size, fun k hk => (h.block k (by omega) (by omega) (by omega) (by omega)).trans (h0.block k hk)⟩
theorem Kept3.cell {x a b : Nat} {w w' : World} (h : Kept3 x a b w w') {g i : Nat} (hg : g < w.heap.size) (hx : g ≠ x) (ha : g ≠ a) (hb : g ≠ b) : w'.cell? ⟨g, i, none⟩ = w.cell? ⟨g, i, none⟩ := World.cell?_of_block (w := w) (h.block g hg hx ha hb)
theorem Kept3.frozen {x a b : Nat} {w w' : World} (h : Kept3 x a b w w') {g i : Nat} (hg : g < w.heap.size) (hx : g ≠ x) (ha : g ≠ a) (hb : g ≠ b) : w'.frozen? ⟨g, i, none⟩ = w.frozen? ⟨g, i, none⟩ := World.frozen?_of_block (w := w) (h.block g hg hx ha hb)
theorem cell_far {X : World} {g x i o : Nat} {v : Value} (h : x ≠ g) : (X.setCell ⟨g, o, none⟩ v).cell? ⟨x, i, none⟩ = X.cell? ⟨x, i, none⟩ := World.cell?_setCell_other _ _ _ _ (by simp [h])
/-- What the loop of appendReverse holds: at the sum, then at its left text, whose lock it has taken. -/
def ARel (w : World) (x a b : Nat) (t : ByteArray) (sL sY : Value) (wr : World) : Prop :=
  (sL = .slice none 0 0 ∧ sY = .pointer (some ⟨x, 0, none⟩) ∧ w = wr) ∨
  (∃ w2 v2, v2 = sL ∧ wr = (w2.setCell ⟨b, 0, none⟩ (.int .i32 0)).setCell ⟨a, 0, none⟩ (.int .i32 1) ∧ sY = .pointer (some ⟨a, 0, none⟩) ∧ w2.ownsRow w.heap.size 9 1 v2 1 [.string t] ∧ Below w.heap.size (w.setCell ⟨b, 0, none⟩ (.int .i32 1)) w2)
def atP (b : Nat) : Value → Nat
  | .pointer (some ⟨k, _, _⟩) => if k = b then 1 else 0
  | _ => 0
def ARes (w : World) (x a b : Nat) (s t : ByteArray) (e : Ending) (w' : World) : Prop :=
  ∃ v', e = .returned v' ∧ w'.ownsRow w.heap.size 9 1 v' 2 [.string t, .string s] ∧ Kept3 x a b w w' ∧ (∀ i, w'.cell? ⟨x, i, none⟩ = w.cell? ⟨x, i, none⟩) ∧ (∀ i, w'.frozen? ⟨x, i, none⟩ = w.frozen? ⟨x, i, none⟩) ∧ w.heap.size ≤ w'.heap.size
set_option maxRecDepth 100000 in
set_option maxHeartbeats 400000 in
theorem ar_node (x a b : Nat) (s t : ByteArray) (w : World) (hx : x < w.heap.size) (h3 : w.cell? ⟨x, 3, none⟩ = some (.pointer (some ⟨a, 0, none⟩))) (h4 : w.cell? ⟨x, 4, none⟩ = some (.pointer (some ⟨b, 0, none⟩)))
    (xa : x ≠ a) (xb : x ≠ b) (ab : a ≠ b) (sa : StrAt w a s) (sb : StrAt w b t) (cx : CellsAt w x) (cA : CellsAt w a) :
    Calls Tryz.prog 140 #[.pointer (some ⟨x, 0, none⟩), .slice none 0 0] w (ARes w x a b s t) := by
  have HH := Aside0.mk (show x < w.heap.size ∧ x ≠ a ∧ x ≠ b ∧ a ≠ b ∧ StrAt w a s ∧ StrAt w b t ∧ True from ⟨hx, xa, xb, ab, sa, sb, trivial⟩)
  have hpn : ∀ W, (binOp .neq 100 (.pointer (some ⟨x, 0, none⟩)) (.pointer (some ⟨x, 0, none⟩))).run Tryz.prog W = .ok (.bool false) W := by
    intro W
    obtain ⟨j, hte⟩ : ∃ j, Tryz.prog.info? 108 = some j := Option.isSome_iff_exists.1 (by kernel_rfl)
    obtain ⟨d, hd⟩ : ∃ d, Op.maxDepth = d + 1 := ⟨Op.maxDepth - 1, by decide⟩
    simp [binOp, Op.equal, hd, Op.equalIn, run_underlying Tryz.underlying100, run_sameAddr_same, sizeOf, hte, go_sem]
  have HC := Aside0.mk (And.intro cx cA)
  clear cx cA
  clear hx xa xb ab sa sb
  go_enter Tryz.func140, Tryz.ntmps140
  go_wp2
  go_loopw [1, 5] (fun sL sY wr => ARel w x a b t sL sY wr) (fun _ sY _ => atP x sY)
  case atStart => exact .inl ⟨rfl, rfl, rfl⟩
  case round =>
    rcases hrel with ⟨rfl, rfl, rfl⟩ | ⟨w2, v2, rfl, rfl, rfl, ho, hb2⟩
    · have hb3 := HH.out.2.2.2.2.2.1
      have lk : w.cell? ⟨b, 0, none⟩ = some (.int .i32 0) := hb3.c0
      have lz : w.frozen? ⟨b, 0, none⟩ = false := hb3.z0
      clear hb3
      go_wp2_with (go_at_call 136; refine (lock_free Tryz.muLib ⟨b, 0, none⟩ _ lk lz).mono ?_; rintro e w' ⟨rfl, rfl⟩)
      refine (ar_leaf2 b t w HH.out.2.2.2.2.2.1).mono ?_
      rintro e w2 ⟨v2, rfl, ho, hb2⟩
      have hz2 : w.heap.size ≤ w2.heap.size := by have := hb2.size; simpa using this
      have k3 : w2.cell? ⟨x, 3, none⟩ = some (.pointer (some ⟨a, 0, none⟩)) := by
        refine (hb2.cell (p := ⟨x, 3, none⟩) HH.out.1).trans ((World.cell?_setCell_other _ _ _ _ ?_).trans h3)
        simp
      have k4 : w2.cell? ⟨x, 4, none⟩ = some (.pointer (some ⟨b, 0, none⟩)) := by
        refine (hb2.cell (p := ⟨x, 4, none⟩) HH.out.1).trans ((World.cell?_setCell_other _ _ _ _ ?_).trans h4)
        simp
      have kb : w2.cell? ⟨b, 0, none⟩ = some (.int .i32 1) := (hb2.cell (p := ⟨b, 0, none⟩) HH.out.2.2.2.2.2.1.lt).trans (World.cell?_setCell_same _ _ _ lk)
      have zb : w2.frozen? ⟨b, 0, none⟩ = false := (hb2.frozen (p := ⟨b, 0, none⟩) HH.out.2.2.2.2.2.1.lt).trans (by simp [lz])
      have ka : (w2.setCell ⟨b, 0, none⟩ (.int .i32 0)).cell? ⟨a, 0, none⟩ = some (.int .i32 0) := by
        refine (World.cell?_setCell_other _ _ _ _ ?_).trans ((hb2.cell (p := ⟨a, 0, none⟩) HH.out.2.2.2.2.1.lt).trans ((World.cell?_setCell_other _ _ _ _ ?_).trans HH.out.2.2.2.2.1.c0)) <;> simp [HH.out.2.2.2.1.symm]
      have za : (w2.setCell ⟨b, 0, none⟩ (.int .i32 0)).frozen? ⟨a, 0, none⟩ = false := by
        simp only [World.frozen?_setCell]
        exact (hb2.frozen (p := ⟨a, 0, none⟩) HH.out.2.2.2.2.1.lt).trans (by simp [HH.out.2.2.2.2.1.z0])
      have HO := Aside0.mk ho
      have HB2 := Aside0.mk hb2
      clear ho hb2 lk lz
      go_wp2_with (go_at_call 137; refine (unlock_held Tryz.muLib ⟨b, 0, none⟩ _ kb zb).mono ?_; rintro e w' ⟨rfl, rfl⟩)
      go_wp2_with (go_at_call 136; refine (lock_free Tryz.muLib ⟨a, 0, none⟩ _ ka za).mono ?_; rintro e w' ⟨rfl, rfl⟩)
      refine ⟨.inr ⟨w2, v2, rfl, rfl, rfl, HO.out, HB2.out⟩, ?_⟩
      have hne : a ≠ x := fun h => HH.out.2.1 h.symm
      simp [atP, hne]
    · have ab2 := HH.out.2.2.2.1
      have hz2 : w.heap.size ≤ w2.heap.size := by have := hb2.size; simpa using this
      have la := HH.out.2.2.2.2.1.lt
      have W2 : ∀ i, 0 < i → w2.cell? ⟨a, i, none⟩ = w.cell? ⟨a, i, none⟩ := fun i hi => (hb2.cell (p := ⟨a, i, none⟩) la).trans (World.cell?_setCell_other _ _ _ _ (by simp <;> omega))
      obtain ⟨W4, hW4⟩ : ∃ W, (w2.setCell ⟨b, 0, none⟩ (.int .i32 0)).setCell ⟨a, 0, none⟩ (.int .i32 1) = W := ⟨_, rfl⟩
      have g2 : W4.cell? ⟨a, 2, none⟩ = some (.string s) := by
        rw [← hW4]
        exact (World.cell?_setCell_other _ _ _ _ (by simp)).trans ((World.cell?_setCell_other _ _ _ _ (by simp)).trans ((W2 2 (by omega)).trans HH.out.2.2.2.2.1.c2))
      have g4 : W4.cell? ⟨a, 4, none⟩ = some (.pointer none) := by
        rw [← hW4]
        exact (World.cell?_setCell_other _ _ _ _ (by simp)).trans ((World.cell?_setCell_other _ _ _ _ (by simp)).trans ((W2 4 (by omega)).trans HH.out.2.2.2.2.1.c4))
      have g0 : W4.cell? ⟨a, 0, none⟩ = some (.int .i32 1) := by
        rw [← hW4]
        refine World.cell?_setCell_same _ _ (.int .i32 1) (u := .int .i32 0) ?_
        refine (World.cell?_setCell_other _ _ _ _ ?_).trans ((hb2.cell (p := ⟨a, 0, none⟩) la).trans ((World.cell?_setCell_other _ _ _ _ ?_).trans HH.out.2.2.2.2.1.c0)) <;> simp [ab2.symm]
      have z0 : W4.frozen? ⟨a, 0, none⟩ = false := by
        rw [← hW4]
        simp only [World.frozen?_setCell]
        exact (hb2.frozen (p := ⟨a, 0, none⟩) la).trans (by simp [HH.out.2.2.2.2.1.z0])
      rw [hW4]
      have HW4 := Aside0.mk hW4
      have HO := Aside0.mk ho
      have HB2 := Aside0.mk hb2
      have cA4 : CellsAt W4 a := by rw [← hW4]; exact ((CellsAt.below (HC.out.2.set b 0 _) hb2 la).set _ _ _).set _ _ _
      have cX4 : CellsAt W4 x := by rw [← hW4]; exact ((CellsAt.below (HC.out.1.set b 0 _) hb2 HH.out.1).set _ _ _).set _ _ _
      have hpd := ptr_neq (fun h => HH.out.2.1 h.symm) (W4.setCell ⟨a, 0, none⟩ (.int .i32 0)) (cA4.set _ _ _) (cX4.set _ _ _)
      have hpd := ptr_neq (fun h => HH.out.2.1 h.symm) W4 cA4 cX4
      clear ho hb2 hW4 W2 ab2 cA4 cX4
      have hinfo : (Tryz.prog.info? 9).map (fun i => (i.zero, i.size, i.bytes)) = some (some (.string ⟨#[]⟩), 1, 16) := by kernel_rfl
      obtain ⟨i0, hi0, hz00, hz01, hz02⟩ := info_parts hinfo
      have HBS := Aside0.mk (show ∀ o, w.heap.size ≤ ((W4.setCell ⟨a, 0, none⟩ (.int .i32 0)).alloc o).heap.size from fun o => by simp only [World.size_alloc, World.size_setCell, ← HW4.out]; omega)
      have HS1 := Aside0.mk (show ∀ (j : Nat) (u : Value), [Value.string s][j]? = some u → ((W4.setCell ⟨a, 0, none⟩ (.int .i32 0)).alloc (.cells #[.string s] 9)).cell? ((⟨W4.heap.size, 0, none⟩ : Addr).add j) = some u from by have := str1 (W4.setCell ⟨a, 0, none⟩ (.int .i32 0)) s; rw [World.size_setCell] at this; exact this)
      have HO4 := Aside0.mk (show (W4.setCell ⟨a, 0, none⟩ (.int .i32 0)).ownsRow w.heap.size 9 1 v2 1 [.string t] from by rw [← HW4.out]; exact ownsRow_setCell_below (ownsRow_setCell_below (ownsRow_setCell_below HO.out (a := ⟨b, 0, none⟩) HH.out.2.2.2.2.2.1.lt _) (a := ⟨a, 0, none⟩) la _) (a := ⟨a, 0, none⟩) la _)
      go_wp2_with (first | (go_at_call 137; refine (unlock_held Tryz.muLib ⟨a, 0, none⟩ _ g0 z0).mono ?_; rintro e w' ⟨rfl, rfl⟩) | (at_builtin; refine wpList_append_own _ rfl _ _ 187 rfl w.heap.size 9 i0 (.string ⟨#[]⟩) 1 16 Tryz.underlying187 hi0 hz00 hz01 hz02 rfl (by decide) _ _ _ rfl (HO4.out.alloc _) ⟨W4.heap.size, 0, none⟩ 1 1 [.string s] rfl rfl HS1.out (str1c s) (by decide) (by decide) (HBS.out _) ?_; intro v' w5 hown5 hgrow5 _; have HO5 := Aside0.mk hown5; have HG5 := Aside0.mk hgrow5; clear hown5 hgrow5))
      go_ret
      obtain ⟨hx, xa, xb, ab, sa, sb, _⟩ := HH.out
      have hs4 : (W4.setCell ⟨a, 0, none⟩ (.int .i32 0)).heap.size = w2.heap.size := by rw [← HW4.out]; simp
      have hg5 : Below w.heap.size (W4.setCell ⟨a, 0, none⟩ (.int .i32 0)) w5 := (((Below.refl w.heap.size _).alloc (by rw [hs4]; exact hz2) _).grown HG5.out (HBS.out _) (fun kk hk => (HO4.out.lt kk hk).1))
      have cA : ∀ i, (W4.setCell ⟨a, 0, none⟩ (.int .i32 0)).cell? ⟨x, i, none⟩ = w.cell? ⟨x, i, none⟩ := fun i => by
        rw [← HW4.out]
        exact (cell_far xa).trans ((cell_far xa).trans ((cell_far xb).trans ((HB2.out.cell (p := ⟨x, i, none⟩) hx).trans (cell_far xb))))
      have cF : ∀ i, (W4.setCell ⟨a, 0, none⟩ (.int .i32 0)).frozen? ⟨x, i, none⟩ = w.frozen? ⟨x, i, none⟩ := fun i => by
        rw [← HW4.out]
        simp only [World.frozen?_setCell]
        exact (HB2.out.frozen (p := ⟨x, i, none⟩) hx).trans (by simp)
      have hK : Kept3 x a b w (W4.setCell ⟨a, 0, none⟩ (.int .i32 0)) := by
        rw [← HW4.out]
        exact (((((Kept3.refl x a b w).set b 0 _ (by simp)).below (Nat.le_refl _) HB2.out).set b 0 _ (by simp)).set a 0 _ (by simp)).set a 0 _ (by simp)
      exact ⟨_, rfl, HO5.out, hK.below (Nat.le_refl _) hg5, fun i => (hg5.cell (p := ⟨x, i, none⟩) hx).trans (cA i), fun i => (hg5.frozen (p := ⟨x, i, none⟩) hx).trans (cF i), Nat.le_trans (by rw [hs4]; exact hz2) hg5.size⟩
end Go.Proofs.YtlfmgidpdmmpkaaGreatDoor

/- math/big: natural numbers of at most one word: make, set, setWord, norm, SetBits, Neg. -/
import Derived.Test.YtbcgeeaboecmgaaGreatDoorB
import Derived.OwnWalk
import Derived.Laws.CopyOwn
import Derived.LaidEql
namespace Go.Proofs.YtbcgeeaboecmgaaGreatDoor
open Go Go.RowKit Go.Proofs.YtbcgeeaboecmgaaGreatDoorW.PrintWords
set_option linter.unusedVariables false
set_option linter.unusedSimpArgs false

/-- A natural number of one word, or nothing. -/
inductive N1 (W : World) : Value → Int → Prop
  | zero (A : Option Addr) (c : Nat) : N1 W (.slice A 0 c) 0
  | one (g c : Nat) (x : Int) (h0 : 0 < x) (h1 : x < 18446744073709551616) (hc : 1 ≤ c) (hx : W.cell? ⟨g, 0, none⟩ = some (.int .u64 x)) (hz : W.frozen? ⟨g, 0, none⟩ = false) : N1 W (.slice (some ⟨g, 0, none⟩) 1 c) x
theorem N1.below {w W : World} {v : Value} {x : Int} (h : N1 w v x) (hb : Below w.heap.size w W) : N1 W v x := by
  cases h with
  | zero A c => exact .zero A c
  | one g c x h0 h1 hc hx hz =>
    have hg : g < w.heap.size := World.block_lt_of_cell? w _ hx
    exact .one g c x h0 h1 hc ((hb.cell (p := ⟨g, 0, none⟩) hg).trans hx) ((hb.frozen (p := ⟨g, 0, none⟩) hg).trans hz)

theorem word_info : ∃ i : TypeInfo, Tryz.prog.info? 132 = some i ∧ i.zero = some (.int .u64 0) ∧ i.size = 1 ∧ i.bytes = 8 := by
  have hinfo : (Tryz.prog.info? 132).map (fun i => (i.zero, i.size, i.bytes)) = some (some (.int .u64 0), 1, 8) := by kernel_rfl
  obtain ⟨i, h, h0, h1, h2⟩ := info_parts hinfo
  exact ⟨i, h, h0, h1, h2⟩
/-- What makeSlice lays: a row of zeros. -/
theorem mk_run (l c : Nat) (hl : l ≤ c) (hc : c ≤ 100000) (w : World) :
    (Instr.makeSlice 119 (.int .i64 l) (.int .i64 c)).run Tryz.prog w = .ok (.slice (some ⟨w.heap.size, 0, none⟩) l c) (w.alloc (.cells (Array.replicate c (.int .u64 0)) 132)) := by
  obtain ⟨i, hi, hz, hs, hb⟩ := word_info
  have h := run_make (P := Tryz.prog) w 119 132 i (.int .u64 0) Tryz.underlying119 hi hz .i64 .i64 l c (by omega) (by omega) (by rw [hb]; omega) (by omega)
  rw [h, hs]
  have e : madeCells (Value.int .u64 0).cells ((c : Int).toNat * 1) = Array.replicate c (.int .u64 0) := by
    apply Array.ext
    · simp [madeCells]
    · intro j h1 h2
      simp [madeCells, Value.cells, Nat.mod_one]
  rw [e]
  simp
theorem mk11 (w : World) : (Instr.makeSlice 119 (.int .i64 1) (.int .i64 1)).run Tryz.prog w = .ok (.slice (some ⟨w.heap.size, 0, none⟩) 1 1) (w.alloc (.cells #[.int .u64 0] 132)) := mk_run 1 1 (by decide) (by decide) w
theorem mk26 (w : World) : (Instr.makeSlice 119 (.int .i64 2) (.int .i64 6)).run Tryz.prog w = .ok (.slice (some ⟨w.heap.size, 0, none⟩) 2 6) (w.alloc (.cells #[.int .u64 0, .int .u64 0, .int .u64 0, .int .u64 0, .int .u64 0, .int .u64 0] 132)) := mk_run 2 6 (by decide) (by decide) w
set_option maxRecDepth 100000 in
set_option maxHeartbeats 400000 in
theorem make1 (w : World) : Calls Tryz.prog 153 #[.slice none 0 0, .int .i64 1] w fun e w' => e = .returned (.slice (some ⟨w.heap.size, 0, none⟩) 1 1) ∧ w.alloc (.cells #[.int .u64 0] 132) = w' := by
  have hm := mk11
  go_enter Tryz.func153, Tryz.ntmps153
  go_wp2
  go_ret
  exact ⟨rfl, rfl⟩
set_option maxRecDepth 100000 in
set_option maxHeartbeats 400000 in
theorem make2 (w : World) : Calls Tryz.prog 153 #[.slice none 0 0, .int .i64 2] w fun e w' => e = .returned (.slice (some ⟨w.heap.size, 0, none⟩) 2 6) ∧ w.alloc (.cells #[.int .u64 0, .int .u64 0, .int .u64 0, .int .u64 0, .int .u64 0, .int .u64 0] 132) = w' := by
  have hm := mk26
  go_enter Tryz.func153, Tryz.ntmps153
  go_wp2
  go_ret
  exact ⟨rfl, rfl⟩
set_option maxRecDepth 100000 in
set_option maxHeartbeats 400000 in
theorem make0 (A : Option Addr) (c : Nat) (w : World) : Calls Tryz.prog 153 #[.slice A 0 c, .int .i64 0] w fun e w' => e = .returned (.slice A 0 c) ∧ w = w' := by
  have hc : (0 : Int) ≤ (c : Int) := by omega
  go_enter Tryz.func153, Tryz.ntmps153
  go_wp2
  go_ret
  exact ⟨rfl, rfl⟩
set_option maxRecDepth 100000 in
set_option maxHeartbeats 400000 in
theorem setWord0 (w : World) : Calls Tryz.prog 107 #[.slice none 0 0, .int .u64 0] w fun e w' => e = .returned (.slice none 0 0) ∧ w = w' := by
  go_enter Tryz.func107, Tryz.ntmps107
  go_wp2
  go_ret
  exact ⟨rfl, rfl⟩
set_option maxRecDepth 100000 in
set_option maxHeartbeats 400000 in
theorem setWord1 (x : Int) (hx : (x == 0) = false) (w : World) : Calls Tryz.prog 107 #[.slice none 0 0, .int .u64 x] w fun e w' => e = .returned (.slice (some ⟨w.heap.size, 0, none⟩) 1 1) ∧ w.alloc (.cells #[.int .u64 x] 132) = w' := by
  go_enter Tryz.func107, Tryz.ntmps107
  go_wp2_with (go_at_call 153; refine (make1 _).mono ?_; rintro e w' ⟨rfl, rfl⟩)
  go_ret
  exact ⟨rfl, rfl⟩
theorem copy0 (A A' : Option Addr) (c c' : Nat) (w : World) : (Builtin.copy_ #[119, 119] 3 #[.slice A' 0 c', .slice A 0 c]).run Tryz.prog w = .ok (.int .i64 0) w :=
  run_copy_none w _ _ _ 132 A' A 0 c' 0 c Tryz.underlying119 (by kernel_rfl) rfl
theorem copy1 (ad : Addr) (c : Nat) (x : Int) (w : World) (h : w.cell? ad = some (.int .u64 x)) :
    (Builtin.copy_ #[119, 119] 3 #[.slice (some ⟨w.heap.size, 0, none⟩) 1 1, .slice (some ad) 1 c]).run Tryz.prog (w.alloc (.cells #[.int .u64 0] 132)) = .ok (.int .i64 1) (w.alloc (.cells #[.int .u64 x] 132)) := by
  have hz : ad.block < w.heap.size := World.block_lt_of_cell? w ad h
  have hc : (w.alloc (.cells #[.int .u64 0] 132)).cell? ad = some (.int .u64 x) := (World.cell?_alloc_lt w _ ad hz).trans h
  have r := run_copy_cells (P := Tryz.prog) (w.alloc (.cells #[.int .u64 0] 132)) 119 119 3 132 w.heap.size 0 1 1 ad 1 c [.int .u64 x] Tryz.underlying119 (by kernel_rfl) rfl
    (by intro j v hj
        match j, hj with
        | 0, hj => simp at hj; subst hj; exact hc
        | (j + 1), hj => simp at hj)
    (by intro j hj
        simp at hj
        subst hj
        rw [show (w.alloc (.cells #[.int .u64 0] 132)).cell? ⟨w.heap.size, 0 + 0, none⟩ = some (.int .u64 0) from cn rfl]
        rfl)
    (by intro j hj
        simp at hj
        subst hj
        exact fn rfl)
    (by intro v hv; simp at hv; subst hv; rfl)
  rw [r]
  show Result.ok (Value.int .i64 1) ((w.alloc (.cells #[.int .u64 0] 132)).setCell ⟨w.heap.size, 0, none⟩ (.int .u64 x)) = _
  rw [World.setCell_alloc_at _ _ _ _ _ rfl]
  rfl
set_option maxRecDepth 100000 in
set_option maxHeartbeats 400000 in
theorem set0 (A : Option Addr) (c : Nat) (w : World) : Calls Tryz.prog 94 #[.slice none 0 0, .slice A 0 c] w fun e w' => e = .returned (.slice none 0 0) ∧ w = w' := by
  have hcp := copy0 A none c 0
  go_enter Tryz.func94, Tryz.ntmps94
  go_wp2_with (go_at_call 153; refine (make0 none 0 _).mono ?_; rintro e w' ⟨rfl, rfl⟩)
  go_ret
  exact ⟨rfl, rfl⟩
set_option maxRecDepth 100000 in
set_option maxHeartbeats 400000 in
theorem set1 (ad : Addr) (c : Nat) (x : Int) (w : World) (h : w.cell? ad = some (.int .u64 x)) : Calls Tryz.prog 94 #[.slice none 0 0, .slice (some ad) 1 c] w fun e w' => e = .returned (.slice (some ⟨w.heap.size, 0, none⟩) 1 1) ∧ w.alloc (.cells #[.int .u64 x] 132) = w' := by
  have hcp := copy1 ad c x w h
  go_enter Tryz.func94, Tryz.ntmps94
  go_wp2_with (go_at_call 153; refine (make1 _).mono ?_; rintro e w' ⟨rfl, rfl⟩)
  go_ret
  exact ⟨rfl, rfl⟩
set_option maxRecDepth 100000 in
set_option maxHeartbeats 400000 in
theorem norm0 (A : Option Addr) (c : Nat) (w : World) : Calls Tryz.prog 156 #[.slice A 0 c] w fun e w' => e = .returned (.slice A 0 c) ∧ w = w' := by
  have hc : (0 : Int) ≤ (c : Int) := by omega
  go_enter Tryz.func156, Tryz.ntmps156
  go_wp2
  go_loop [3] (fun i => i = .int .i64 0) (fun _ => 0)
  case atStart => rfl
  case round =>
    subst hrel
    go_wp2
    go_ret
    exact ⟨rfl, rfl⟩
set_option maxRecDepth 100000 in
set_option maxHeartbeats 400000 in
theorem norm1 (g c : Nat) (x : Int) (hx : (x == 0) = false) (hc : 1 ≤ c) (w : World) (h : w.cell? ⟨g, 0, none⟩ = some (.int .u64 x)) : Calls Tryz.prog 156 #[.slice (some ⟨g, 0, none⟩) 1 c] w fun e w' => e = .returned (.slice (some ⟨g, 0, none⟩) 1 c) ∧ w = w' := by
  go_enter Tryz.func156, Tryz.ntmps156
  go_wp2
  go_loop [3] (fun i => i = .int .i64 1) (fun _ => 0)
  case atStart => rfl
  case round =>
    subst hrel
    go_wp2
    go_ret
    exact ⟨rfl, rfl⟩
set_option maxRecDepth 100000 in
set_option maxHeartbeats 400000 in
theorem norm2 (g c : Nat) (x : Int) (hx : (x == 0) = false) (hc : 2 ≤ c) (w : World) (h : w.cell? ⟨g, 0, none⟩ = some (.int .u64 x)) (h1 : w.cell? ⟨g, 1, none⟩ = some (.int .u64 0)) : Calls Tryz.prog 156 #[.slice (some ⟨g, 0, none⟩) 2 c] w fun e w' => e = .returned (.slice (some ⟨g, 0, none⟩) 1 c) ∧ w = w' := by
  go_enter Tryz.func156, Tryz.ntmps156
  go_wp2
  go_loop [3] (fun i => i = .int .i64 2 ∨ i = .int .i64 1) (fun i => (intOf i).toNat)
  case atStart => exact .inl rfl
  case round =>
    rcases hrel with rfl | rfl
    · go_wp2
      exact ⟨.inr rfl, by decide⟩
    · go_wp2
      go_ret
      exact ⟨rfl, rfl⟩
end Go.Proofs.YtbcgeeaboecmgaaGreatDoor

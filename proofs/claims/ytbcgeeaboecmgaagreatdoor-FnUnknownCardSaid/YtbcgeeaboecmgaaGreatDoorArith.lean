/- Words: math/bits.Add, math/big's mulAddWWW_g, mulAddVWW, mulAddWW and mul at one word. -/
import Derived.Test.YtbcgeeaboecmgaaGreatDoorNat
import Derived.Test.YtbcgeeaboecmgaaGreatDoorShelf
import Derived.Laws.Externs
namespace Go.Proofs.YtbcgeeaboecmgaaGreatDoor
open Go Go.RowKit Go.Proofs.YtbcgeeaboecmgaaGreatDoorW.PrintWords
set_option linter.unusedVariables false
set_option linter.unusedSimpArgs false

theorem add64_ext (x y c : Nat) (hc : c ≤ 1) (w : World) :
    (callFunc 255 #[.int .u64 x, .int .u64 y, .int .u64 c]).run Tryz.prog w = .ok (.value (.tuple #[.int .u64 (((x + y + c) % 18446744073709551616 : Nat) : Int), .int .u64 (((x + y + c) / 18446744073709551616 : Nat) : Int)])) w := by
  rw [run_callFunc_extern Tryz.func255 (by kernel_rfl) (by kernel_rfl) (by kernel_rfl) (e := add64Entry) (by kernel_rfl), run_add64 x y c (by omega) (by omega) (by omega) (by omega)]
  simp only [Result.andThen]
  congr 5 <;> omega
/-- The two words of a sum. -/
def sumL (x y c : Nat) : Nat := (x + y + c) % 18446744073709551616
def sumH (x y c : Nat) : Nat := (x + y + c) / 18446744073709551616
set_option maxRecDepth 100000 in
set_option maxHeartbeats 400000 in
theorem bits_add (x y c : Nat) (hc : c ≤ 1) (w : World) :
    Calls Tryz.prog 197 #[.int .u64 x, .int .u64 y, .int .u64 c] w fun e w' => e = .returned (.tuple #[.int .u64 (sumL x y c : Nat), .int .u64 (sumH x y c : Nat)]) ∧ w = w' := by
  have ha : ∀ w, (callFunc 255 #[.int .u64 x, .int .u64 y, .int .u64 c]).run Tryz.prog w = .ok (.value (.tuple #[.int .u64 (sumL x y c : Nat), .int .u64 (sumH x y c : Nat)])) w := add64_ext x y c hc
  have HC := Aside0.mk hc
  clear hc
  go_enter Tryz.func197, Tryz.ntmps197
  go_wp2
  go_ret2
  exact ⟨rfl, rfl⟩
/-- The two words of a product and a summand. -/
def mulL (x y c : Nat) : Nat := (x * y + c) % 18446744073709551616
def mulH (x y c : Nat) : Nat := (x * y + c) / 18446744073709551616
theorem mul_words (x y c : Nat) (hx : x < 18446744073709551616) (hy : y < 18446744073709551616) (hc : c < 18446744073709551616) :
    sumL (x * y % 18446744073709551616) c 0 = mulL x y c ∧ x * y / 18446744073709551616 + sumH (x * y % 18446744073709551616) c 0 = mulH x y c ∧ mulH x y c < 18446744073709551616 := by
  have h : x * y ≤ 18446744073709551615 * 18446744073709551615 := Nat.mul_le_mul (by omega) (by omega)
  unfold sumL sumH mulL mulH
  generalize x * y = p at *
  omega
set_option maxRecDepth 100000 in
set_option maxHeartbeats 400000 in
theorem mulAddWWW (x y c : Nat) (hx : x < 18446744073709551616) (hy : y < 18446744073709551616) (hc : c < 18446744073709551616) (w : World) :
    Calls Tryz.prog 310 #[.int .u64 x, .int .u64 y, .int .u64 c] w fun e w' => e = .returned (.tuple #[.int .u64 (mulH x y c : Nat), .int .u64 (mulL x y c : Nat)]) ∧ w = w' := by
  obtain ⟨h1, h2, h3⟩ := mul_words x y c hx hy hc
  have HM := Aside0.mk (fun w => Tryz.bits_Mul x y hx hy w)
  obtain ⟨p, hp⟩ : ∃ p, x * y / 18446744073709551616 = p := ⟨_, rfl⟩
  obtain ⟨q, hq⟩ : ∃ q, x * y % 18446744073709551616 = q := ⟨_, rfl⟩
  rw [hq] at h1 h2
  rw [hp] at h2
  have hs : IntKind.u64.wrap ((p : Int) + (sumH q c 0 : Nat)) = (mulH x y c : Nat) := by
    rw [← h2, IntKind.wrap_u64]
    omega
  rw [hp, hq] at HM
  have HA := Aside0.mk (fun w => (show Calls Tryz.prog 197 #[.int .u64 q, .int .u64 c, .int .u64 0] w fun e w' => e = .returned (.tuple #[.int .u64 (mulL x y c : Nat), .int .u64 (sumH q c 0 : Nat)]) ∧ w = w' from by rw [← h1]; exact bits_add q c 0 (by decide) w))
  clear h1 h2 h3 hp hq hx hy hc
  go_enter Tryz.func310, Tryz.ntmps310
  go_wp2_with fail
  refine (HM.out _).mono ?_
  rintro e w' ⟨rfl, rfl⟩
  go_wp2_with fail
  refine (HA.out _).mono ?_
  rintro e w' ⟨rfl, rfl⟩
  go_wp2
  go_ret2
  exact ⟨rfl, rfl⟩
/-- One word by one word. -/
theorem mul_one (x : Nat) (hx : x < 18446744073709551616) : mulH x 1 0 = 0 ∧ mulL x 1 0 = x := by unfold mulH mulL; omega
def V1R (w : World) (g x : Nat) (c i : Value) (wr : World) : Prop := (c = .int .u64 0 ∧ i = .int .i64 0 ∧ w = wr) ∨ (c = .int .u64 0 ∧ i = .int .i64 1 ∧ w.setCell ⟨g, 0, none⟩ (.int .u64 x) = wr)
set_option maxRecDepth 100000 in
set_option maxHeartbeats 400000 in
/-- A word times 1, into a row of its own. -/
theorem mulAddVWW1 (g cz : Nat) (ad : Addr) (cx : Nat) (x : Nat) (hx : x < 18446744073709551616) (w : World) (hg : w.cell? ⟨g, 0, none⟩ = some (.int .u64 0)) (hz : w.frozen? ⟨g, 0, none⟩ = false) (h : w.cell? ad = some (.int .u64 x)) :
    Calls Tryz.prog 305 #[.slice (some ⟨g, 0, none⟩) 1 cz, .slice (some ad) 1 cx, .int .u64 1, .int .u64 0] w fun e w' => e = .returned (.int .u64 0) ∧ w.setCell ⟨g, 0, none⟩ (.int .u64 x) = w' := by
  have HM := Aside0.mk (fun w => (show Calls Tryz.prog 310 #[.int .u64 x, .int .u64 1, .int .u64 0] w fun e w' => e = .returned (.tuple #[.int .u64 0, .int .u64 x]) ∧ w = w' from by have := mulAddWWW x 1 0 hx (by decide) (by decide) w; rw [(mul_one x hx).1, (mul_one x hx).2] at this; exact this))
  clear hx
  go_enter Tryz.func305, Tryz.ntmps305
  go_wp2
  go_loopw [8, 19] (fun c i wr => V1R w g x c i wr) (fun _ i _ => 2 - (intOf i).toNat)
  case atStart => exact .inl ⟨rfl, rfl, rfl⟩
  case round =>
    rcases hrel with ⟨rfl, rfl, rfl⟩ | ⟨rfl, rfl, rfl⟩
    · go_wp2_with fail
      refine (HM.out _).mono ?_
      rintro e w' ⟨rfl, rfl⟩
      go_wp2
      exact ⟨.inr ⟨rfl, rfl, rfl⟩, by decide⟩
    · go_wp2
      go_ret
      exact ⟨rfl, rfl⟩
set_option maxRecDepth 100000 in
set_option maxHeartbeats 400000 in
theorem mulAddVWW1w (g cz : Nat) (ad : Addr) (cx : Nat) (x : Nat) (hx : x < 18446744073709551616) (w : World) (hg : w.cell? ⟨g, 0, none⟩ = some (.int .u64 0)) (hz : w.frozen? ⟨g, 0, none⟩ = false) (h : w.cell? ad = some (.int .u64 x)) :
    Calls Tryz.prog 258 #[.slice (some ⟨g, 0, none⟩) 1 cz, .slice (some ad) 1 cx, .int .u64 1, .int .u64 0] w fun e w' => e = .returned (.int .u64 0) ∧ w.setCell ⟨g, 0, none⟩ (.int .u64 x) = w' := by
  have HM := Aside0.mk (mulAddVWW1 g cz ad cx x hx w hg hz h)
  clear hx hg hz h
  go_enter Tryz.func258, Tryz.ntmps258
  go_wp2_with fail
  refine HM.out.mono ?_
  rintro e w' ⟨rfl, rfl⟩
  go_wp2
  go_ret
  exact ⟨rfl, rfl⟩
/-- The row that a product by 1 leaves: two words of six. -/
abbrev rowW (w : World) (x : Int) : World := w.alloc (.cells #[.int .u64 x, .int .u64 0, .int .u64 0, .int .u64 0, .int .u64 0, .int .u64 0] 132)
set_option maxRecDepth 100000 in
set_option maxHeartbeats 400000 in
theorem mulAddWW1 (ad : Addr) (cx : Nat) (x : Nat) (hx : x < 18446744073709551616) (h0 : 0 < x) (w : World) (h : w.cell? ad = some (.int .u64 x)) :
    Calls Tryz.prog 200 #[.slice none 0 0, .slice (some ad) 1 cx, .int .u64 1, .int .u64 0] w fun e w' => e = .returned (.slice (some ⟨w.heap.size, 0, none⟩) 1 6) ∧ rowW w x = w' := by
  have hl : ad.block < w.heap.size := World.block_lt_of_cell? w ad h
  have hn : ((x : Int) == 0) = false := by rw [beq_eq_false_iff_ne]; omega
  have HM := Aside0.mk (mulAddVWW1w w.heap.size 6 ad cx x hx (w.alloc (.cells #[.int .u64 0, .int .u64 0, .int .u64 0, .int .u64 0, .int .u64 0, .int .u64 0] 132)) (cn rfl) (fn rfl) ((World.cell?_alloc_lt w _ ad hl).trans h))
  clear hx h0 hl
  go_enter Tryz.func200, Tryz.ntmps200
  go_wp2_with (go_at_call 153; refine (make2 _).mono ?_; rintro e w' ⟨rfl, rfl⟩)
  refine HM.out.mono ?_
  rintro e w' ⟨rfl, hw⟩
  rw [World.setCell_alloc_at _ _ _ _ _ rfl] at hw
  subst hw
  go_wp2_with (go_at_call 156; refine (norm2 w.heap.size 6 x hn (by decide) _ (cn rfl) (cn rfl)).mono ?_; rintro e w' ⟨rfl, rfl⟩)
  go_ret
  exact ⟨rfl, rfl⟩
end Go.Proofs.YtbcgeeaboecmgaaGreatDoor

/- math/big's nat at one word: set, add, sub, mul, cmp; Int.Add where one is 0; scaleDenom, mulDenom. -/
import Derived.Test.YtbcgeeaboecmgaaGreatDoorBigO
namespace Go.Proofs.YtbcgeeaboecmgaaGreatDoor
open Go Go.RowKit Go.Proofs.YtbcgeeaboecmgaaGreatDoorW.PrintWords
set_option linter.unusedVariables false
set_option linter.unusedSimpArgs false

def NR (x : Int) (w : World) (e : Ending) (w' : World) : Prop := ∃ v, e = .returned v ∧ N1 w' v x ∧ (∀ k, v.ownBlock = some k → w.heap.size ≤ k ∧ k < w'.heap.size) ∧ Below w.heap.size w w'
theorem nr_nil (w : World) : NR 0 w (.returned (.slice none 0 0)) w := ⟨_, rfl, .zero none 0, fun k h => by simp [Value.ownBlock] at h, Below.refl _ _⟩
theorem nat_set (v : Value) (x : Int) (w : World) (h : N1 w v x) : Calls Tryz.prog 94 #[.slice none 0 0, v] w (NR x w) := by
  cases h with
  | zero A c => exact (set0 A c w).mono fun e w' ⟨he, hw⟩ => by subst he; subst hw; exact nr_nil w
  | one g c x h0 h1 hc hx hz =>
    refine (set1 ⟨g, 0, none⟩ c x w hx).mono fun e w' ⟨he, hw⟩ => ?_
    subst he; subst hw
    exact ⟨_, rfl, N1.fresh h0 h1, fun k h => by simp [Value.ownBlock] at h; simp; omega, below_alloc (Below.refl _ _) _⟩
theorem N1.shape {W : World} {v : Value} {x : Int} (h : N1 W v x) : (x = 0 ∧ ∃ A c, v = .slice A 0 c) ∨ (0 < x ∧ ∃ A c, v = .slice A 1 c) := by
  cases h with
  | zero A c => exact .inl ⟨rfl, A, c, rfl⟩
  | one g c x h0 _ _ _ _ => exact .inr ⟨h0, _, c, rfl⟩
set_option maxRecDepth 100000 in
set_option maxHeartbeats 1000000 in
theorem nat_addr (v v0 : Value) (x : Int) (w : World) (h : N1 w v x) (h' : N1 w v0 0) : Calls Tryz.prog 86 #[.slice none 0 0, v, v0] w (NR x w) := by
  have HS := Aside0.mk (nat_set v x w h)
  rcases h'.shape with ⟨_, A0, c0, rfl⟩ | ⟨h, _⟩
  · rcases h.shape with ⟨rfl, A, c, rfl⟩ | ⟨_, A, c, rfl⟩
    · clear h h'
      go_enter Tryz.func86, Tryz.ntmps86
      go_wp2
      go_ret
      exact nr_nil w
    · clear h h'
      go_enter Tryz.func86, Tryz.ntmps86
      go_wp2_with fail
      refine HS.out.mono ?_
      rintro e w' ⟨v', rfl, h⟩
      have H := Aside0.mk h
      clear h
      go_wp2
      go_ret
      exact ⟨v', rfl, H.out⟩
  · omega
set_option maxRecDepth 100000 in
set_option maxHeartbeats 1000000 in
theorem nat_addl (v v0 : Value) (x : Int) (w : World) (h : N1 w v x) (h' : N1 w v0 0) : Calls Tryz.prog 86 #[.slice none 0 0, v0, v] w (NR x w) := by
  have HS := Aside0.mk (nat_addr v v0 x w h h')
  rcases h'.shape with ⟨_, A0, c0, rfl⟩ | ⟨h, _⟩
  · rcases h.shape with ⟨rfl, A, c, rfl⟩ | ⟨_, A, c, rfl⟩
    · clear h h'
      go_enter Tryz.func86, Tryz.ntmps86
      go_wp2
      go_ret
      exact nr_nil w
    · clear h h'
      go_enter Tryz.func86, Tryz.ntmps86
      go_wp2_with fail
      refine HS.out.mono ?_
      rintro e w' ⟨v', rfl, h⟩
      have H := Aside0.mk h
      clear h
      go_wp2
      go_ret
      exact ⟨v', rfl, H.out⟩
  · omega
set_option maxRecDepth 100000 in
set_option maxHeartbeats 1000000 in
theorem nat_sub (v v0 : Value) (x : Int) (w : World) (h : N1 w v x) (h' : N1 w v0 0) : Calls Tryz.prog 88 #[.slice none 0 0, v, v0] w (NR x w) := by
  have HS := Aside0.mk (nat_set v x w h)
  rcases h'.shape with ⟨_, A0, c0, rfl⟩ | ⟨h, _⟩
  · rcases h.shape with ⟨rfl, A, c, rfl⟩ | ⟨_, A, c, rfl⟩
    · clear h h'
      go_enter Tryz.func88, Tryz.ntmps88
      go_wp2
      go_ret
      exact nr_nil w
    · clear h h'
      go_enter Tryz.func88, Tryz.ntmps88
      go_wp2_with fail
      refine HS.out.mono ?_
      rintro e w' ⟨v', rfl, h⟩
      have H := Aside0.mk h
      clear h
      go_wp2
      go_ret
      exact ⟨v', rfl, H.out⟩
  · omega
theorem nat_mulAdd (v : Value) (x : Int) (hx : 0 < x) (w : World) (h : N1 w v x) : Calls Tryz.prog 200 #[.slice none 0 0, v, .int .u64 1, .int .u64 0] w (NR x w) := by
  cases h with
  | zero A c => omega
  | one g c x h0 h1 hc hxx hz =>
    obtain ⟨n, rfl⟩ : ∃ n : Nat, x = n := ⟨x.toNat, by omega⟩
    refine (mulAddWW1 ⟨g, 0, none⟩ c n (by omega) (by omega) w hxx).mono fun e w' ⟨he, hw⟩ => ?_
    subst he; subst hw
    exact ⟨_, rfl, .one _ _ _ h0 h1 (by decide) (cn rfl) (fn rfl), fun k h => by simp [Value.ownBlock] at h; simp; omega, below_alloc (Below.refl _ _) _⟩
set_option maxRecDepth 100000 in
set_option maxHeartbeats 1000000 in
theorem nat_mul0 (A A' : Option Addr) (c c' : Nat) (stk : Value) (w : World) : Calls Tryz.prog 159 #[.slice none 0 0, stk, .slice A 1 c, .slice A' 0 c'] w fun e w' => e = .returned (.slice none 0 0) ∧ w = w' := by
  go_enter Tryz.func159, Tryz.ntmps159
  go_wp2
  go_ret
  exact ⟨rfl, rfl⟩
set_option maxRecDepth 100000 in
set_option maxHeartbeats 1000000 in
theorem nat_mul (v v1 : Value) (x : Int) (stk : Value) (w : World) (h : N1 w v x) (h' : N1 w v1 1) : Calls Tryz.prog 159 #[.slice none 0 0, stk, v, v1] w (NR x w) := by
  cases h' with
  | one g1 c1 _ _ _ hc1 hx1 hz1 =>
    rcases h.shape with ⟨rfl, A, c, rfl⟩ | ⟨h0, A, c, rfl⟩
    · clear h
      go_enter Tryz.func159, Tryz.ntmps159
      go_wp2_with (go_at_call 159; (with_reducible refine (nat_mul0 _ _ _ _ _ _).mono ?_); rintro e w' ⟨rfl, rfl⟩)
      go_ret
      exact nr_nil w
    · have HS := Aside0.mk (nat_mulAdd _ x h0 w h)
      clear h h0
      go_enter Tryz.func159, Tryz.ntmps159
      go_wp2_with fail
      refine HS.out.mono ?_
      rintro e w' ⟨v', rfl, h⟩
      have H := Aside0.mk h
      clear h
      go_wp2
      go_ret
      exact ⟨v', rfl, H.out⟩
set_option maxRecDepth 100000 in
set_option maxHeartbeats 1000000 in
theorem mulDenom1 (v v1 : Value) (stk : Value) (w : World) (h : N1 w v 1) (h' : N1 w v1 1) : Calls Tryz.prog 105 #[stk, .slice none 0 0, v, v1] w (NR 1 w) := by
  have HM := Aside0.mk (nat_mul v v1 1 stk w h h')
  obtain ⟨A, c, rfl⟩ := h.form (by decide)
  obtain ⟨A', c', rfl⟩ := h'.form (by decide)
  clear h h'
  go_enter Tryz.func105, Tryz.ntmps105
  go_wp2_with fail
  refine HM.out.mono ?_
  rintro e w' ⟨v', rfl, h⟩
  have H := Aside0.mk h
  clear h
  go_wp2
  go_ret
  exact ⟨v', rfl, H.out⟩
end Go.Proofs.YtbcgeeaboecmgaaGreatDoor

/- math/big's Int at one word: scaleDenom by 1, Add where one is 0. -/
import Derived.Test.YtbcgeeaboecmgaaGreatDoorBigA
import Derived.Deep.QuietTactic
import Derived.BigQuiet
import Derived.WalkSmall
namespace Go.Proofs.YtbcgeeaboecmgaaGreatDoor
open Go Go.RowKit Go.Proofs.YtbcgeeaboecmgaaGreatDoorW.PrintWords
set_option linter.unusedVariables false
set_option linter.unusedSimpArgs false

theorem N1.sl {W : World} {v : Value} {x : Int} (h : N1 W v x) : ∃ A n c, v = .slice A n c := by
  rcases h.shape with ⟨_, A, c, e⟩ | ⟨_, A, c, e⟩
  · exact ⟨A, 0, c, e⟩
  · exact ⟨A, 1, c, e⟩
theorem bcellB {W w1 : World} (hb : Below W.heap.size W w1) : (∀ b o, b < W.heap.size → w1.cell? ⟨b, o, none⟩ = W.cell? ⟨b, o, none⟩) ∧ (∀ b o, b < W.heap.size → w1.frozen? ⟨b, o, none⟩ = W.frozen? ⟨b, o, none⟩) :=
  ⟨fun b o h => hb.cell (p := ⟨b, o, none⟩) h, fun b o h => hb.frozen (p := ⟨b, o, none⟩) h⟩
/-- The end of a call that lays a new number into an Int. -/
theorem put_end {w w1 : World} {zb zo : Nat} {neg neg0 : Bool} {x : Int} {v0 v : Value} (h : IntAt w zb zo neg0 v0) (hb : Below w.heap.size w w1) (hN : N1 w1 v x) (ho : ∀ k, v.ownBlock = some k → w.heap.size ≤ k) :
    SetR w zb zo neg x (.returned (.pointer (some ⟨zb, zo, none⟩))) (putI w1 zb zo neg v) := by
  have hI := h.below hb h.lt
  have hl := h.lt
  refine ⟨_, rfl, hN.kept putI_kept (fun k hk => by have := ho k hk; omega), putI_int hI, ((Kept1.refl zb w).below (Nat.le_refl _) hb).trans putI_kept, ho, ?_, ?_⟩
  · intro i h0 h1
    exact (putI_cell i h0 h1).trans (hb.cell (p := ⟨zb, i, none⟩) hl)
  · intro i
    exact (putI_frozen _).trans (hb.frozen (p := ⟨zb, i, none⟩) hl)
def ScR (w : World) (zb : Nat) (neg : Bool) (x : Int) (e : Ending) (w' : World) : Prop := e = .returned (.tuple #[]) ∧ SetR w zb 0 neg x (.returned (.pointer (some ⟨zb, 0, none⟩))) w'
set_option maxRecDepth 100000 in
set_option maxHeartbeats 1000000 in
theorem scaleDenom1 (zb xb : Nat) (stk f v : Value) (x : Int) (neg neg0 : Bool) (w : World) (hz : IntAt w zb 0 neg0 (.slice none 0 0)) (hx : IntAt w xb 0 neg v) (hv : N1 w v x) (hf : N1 w f 1) (hne : xb ≠ zb) :
    Calls Tryz.prog 104 #[.pointer (some ⟨zb, 0, none⟩), stk, .pointer (some ⟨xb, 0, none⟩), f] w (ScR w zb neg x) := by
  have HM := Aside0.mk (fun W (hb : Below w.heap.size w W) => nat_mul v f x stk W (hv.below hb) (hf.below hb))
  obtain ⟨A, c, rfl⟩ := hf.form (by decide)
  have zc0 := hz.c0
  have zc1 := hz.c1
  have zz0 := hz.z0
  have zz1 := hz.z1
  have xc0 := hx.c0
  have xc1 := hx.c1
  have lz := hz.lt
  have lx := hx.lt
  have HZ := Aside0.mk (And.intro hz hne)
  have hne2 : ¬ xb = zb := hne
  have hne3 : ¬ zb = xb := fun h => hne h.symm
  clear hz hx hv hf hne
  go_enter Tryz.func104, Tryz.ntmps104
  go_wp2
  go_region_with (go_at_call 159; refine (HM.out _ (below_drew (Below.refl _ _))).mono ?_; rintro e w' ⟨v', rfl, hN, ho, hb⟩; obtain ⟨A', n', c', rfl⟩ := hN.sl; have HN := Aside0.mk (show Below w.heap.size w w' ∧ N1 w' (.slice A' n' c') x ∧ (∀ k, (Value.slice A' n' c').ownBlock = some k → w.heap.size ≤ k) from ⟨(below_drew (Below.refl _ _)).trans hb, hN, fun k h => (ho k h).1⟩); have k0 := (hb.cell (p := ⟨zb, 0, none⟩) lz).trans zc0; have k1 := (hb.cell (p := ⟨zb, 1, none⟩) lz).trans zc1; have y0 := (hb.frozen (p := ⟨zb, 0, none⟩) lz).trans zz0; have y1 := (hb.frozen (p := ⟨zb, 1, none⟩) lz).trans zz1; have x0 := (hb.cell (p := ⟨xb, 0, none⟩) lx).trans xc0; clear hN ho hb)
  all_goals
    go_wp2
    go_end0
    exact ⟨rfl, put_end HZ.out.1 HN.out.1 HN.out.2.1 HN.out.2.2⟩
/-- The lists of small numbers. -/
def nl (x : Int) : List Int := if x = 0 then [] else [x]
theorem N1.reads {W : World} {v : Value} {x : Int} (h : N1 W v x) : ∃ A c, v = .slice A (nl x).length c ∧ (Kd.int .u64).C W A (nl x).length (nl x) ∧ (nl x).length ≤ c := by
  cases h with
  | zero A c => exact ⟨A, c, by simp [nl], by simp only [nl]; exact ⟨rfl, by decide, fun h => absurd h (by decide)⟩, by simp [nl]⟩
  | one g c x h0 h1 hc hx hz =>
    have e : nl x = [x] := by unfold nl; rw [if_neg (by omega)]
    rw [e]
    refine ⟨_, c, rfl, Kd.C_of_reads (d := (0 : Int)) (h1 := fun _ => rfl) ⟨rfl, by simp, fun _ => ⟨_, rfl, fun j hj => ?_⟩⟩, hc⟩
    obtain rfl : j = 0 := by simp at hj; omega
    exact hx
/-- The order of two numbers. -/
def ord3 (x y : Int) : Int := if x < y then -1 else if y < x then 1 else 0
theorem cmp1 (v v' : Value) (x y : Int) (w : World) (h : N1 w v x) (h' : N1 w v' y) : Calls Tryz.prog 87 #[v, v'] w fun e w' => e = .returned (.int .i64 (ord3 x y)) ∧ Drawn0 w w' := by
  obtain ⟨A, c, rfl, hr, hc⟩ := h.reads
  obtain ⟨A', c', rfl, hr', hc'⟩ := h'.reads
  have hx : 0 ≤ x := by rcases h.shape with ⟨rfl, _⟩ | ⟨h, _⟩ <;> omega
  have hy : 0 ≤ y := by rcases h'.shape with ⟨rfl, _⟩ | ⟨h, _⟩ <;> omega
  refine Ps.bigall_nat_cmp.calls 10 A c _ A' c' _ _ w hr hc hr' hc' ?_
  unfold nl ord3
  by_cases x0 : x = 0
  · by_cases y0 : y = 0
    · subst x0; subst y0; rfl
    · rw [if_pos x0, if_neg y0, if_pos (by omega)]; rfl
  · by_cases y0 : y = 0
    · rw [if_neg x0, if_pos y0, if_neg (by omega), if_pos (by omega)]; rfl
    · rw [if_neg x0, if_neg y0]
      by_cases a : x < y
      · simp [Ps.bigall_nat_cmp.f, Ps.bigall_nat_cmp.j0, Ps.bigall_nat_cmp.l0, Ps.bigall_nat_cmp.j2, rd, wrap64, a]
      · by_cases b : y < x
        · simp [Ps.bigall_nat_cmp.f, Ps.bigall_nat_cmp.j0, Ps.bigall_nat_cmp.l0, Ps.bigall_nat_cmp.j2, rd, wrap64, a, b]
        · simp [Ps.bigall_nat_cmp.f, Ps.bigall_nat_cmp.j0, Ps.bigall_nat_cmp.l0, Ps.bigall_nat_cmp.j2, rd, wrap64, a, b]
end Go.Proofs.YtbcgeeaboecmgaaGreatDoor

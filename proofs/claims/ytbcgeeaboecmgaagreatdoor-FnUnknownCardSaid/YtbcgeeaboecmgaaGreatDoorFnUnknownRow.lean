/- The row and the card of the law FnUnknown: for every input the call returns true; each argument reads behind the call as it read before. -/
import Derived.Test.YtbcgeeaboecmgaaGreatDoorFnUnk
import Derived.Test.YtbcgeeaboecmgaaGreatDoorFnUnknownFacts
import Derived.Test.YtbcgeeaboecmgaaGreatDoorFnUnknownFactsB
import Derived.Test.YtbcgeeaboecmgaaGreatDoorCards
import Derived.Test.YtbcgeeaboecmgaaGreatDoorTie
import Derived.WalkKit
import Derived.ProofKit
import Derived.OpenShut
import Derived.Lay
import Derived.OpenVars
import Derived.MakeChecks
import Derived.SevenTiedAt
namespace Go.Proofs.YtbcgeeaboecmgaaGreatDoor.fnUnknown
open Go.ChangeShapes Go.WideShapes Go.ChangeAt Go.RowKit Go.ChangeMaps
set_option linter.unusedVariables false

theorem own : ownKnob Tryz.prog.godebug = none := by kernel_rfl
theorem laidOut : laidOutB Tryz.prog = true := by kernel_rfl
theorem vars_len {H : Type} {enc : TypeId × Value → H} {P : Program} {W : World} {sp : Nat → Bool} : ∀ {ns : List String} {gs : List (DataW H)} {ps : List MemPlace}, DataW.TrodVars enc P W sp ns gs ps → gs.length = ns.length
  | [], [], _, _ => rfl
  | [], _ :: _, _, h => h.elim
  | _ :: _, [], _, h => h.elim
  | _ :: ns, _ :: ds, _, h => by
    obtain ⟨g, t, cs, f, p, q, _, _, _, _, hs, _⟩ := h
    simp only [List.length_cons, vars_len hs]
set_option maxRecDepth 100000 in
theorem lifted (os : Os) (started : os.Started) (H : Type) (enc : TypeId × Value → H) :
    ReturnsInHanded {} Tryz.checked os 3 .any (fun w args => (Rows.fnUnknownSpec.pre enc Tryz.prog Tryz.f3 [] false w args ∧ laidMetH Tryz.prog Rows.fnUnknownRow.laid w) ∧ sizedMet enc Tryz.prog Tryz.f3 (OpenSpec.ofChange Rows.fnUnknownSpec) false w args)
      (Rows.fnUnknownSpec.post enc Tryz.prog Tryz.f3 false true false false) := by
  refine returnsInHanded_of_change_and (C := Tryz.checked) (X := fun w _ => laidMetH Tryz.prog Rows.fnUnknownRow.laid w) (fun _ _ _ hh h => h.of_heap hh) own started (by kernel_rfl) Tryz.func3
    (ChangeSpec.witness_shaped (enc := enc) (C := Tryz.checked) (os := os) (X := fun w _ => laidMetH Tryz.prog Rows.fnUnknownRow.laid w) false (World.laidAll Tryz.prog os Rows.fnUnknownRow.laid) #[.int .u8 0, .int .u8 0, .int .i64 0, .bool false] 12 (World.laidAll_os _ _ _)
      (World.shaped_of_ZipB (by kernel_rfl) (by kernel_rfl)) (by kernel_rfl) (by kernel_rfl) (by kernel_rfl)
      (by rw [MakeChecks.laidMetH_plain _ _ _ (by kernel_rfl)]; exact laidMet_laidAll _ (by kernel_rfl) (by kernel_rfl))) ?_
  intro W base args ds gs before hval0 hW _ _ hL _
  have hval : ∀ (j : Nat) t v, Tryz.f3.params[j]? = some t → args[j]? = some v → Value.okWide Tryz.prog W .any base t v := hval0
  have hW' := hW
  obtain ⟨p, q, hA0, hV, rfl, _, _⟩ := hW
  have hA : DataW.TrodAll enc Tryz.prog W 0 (fun _ => true) true Tryz.f3.params.toList args.toList ds p := hA0
  rw [Tryz.params3] at hA hval

  obtain ⟨v0, v1, v2, v3, d0, d1, d2, d3, p0, p1, p2, p3, rfl, rfl, rfl, h0, h1, h2, h3⟩ := trodAll_four hA
  obtain ⟨x0, rfl, rfl, rfl, wx0⟩ := open_int Tryz.underlying5 (hval 0 5 v0 rfl rfl) h0
  have hx0 : (0 : Int) ≤ x0 ∧ x0 ≤ 255 := by simpa [Lit.wf, IntKind.min, IntKind.max, IntKind.signed, IntKind.bits] using wx0
  obtain ⟨x1, rfl, rfl, rfl, wx1⟩ := open_int Tryz.underlying5 (hval 1 5 v1 rfl rfl) h1
  have hx1 : (0 : Int) ≤ x1 ∧ x1 ≤ 255 := by simpa [Lit.wf, IntKind.min, IntKind.max, IntKind.signed, IntKind.bits] using wx1
  obtain ⟨x2, rfl, rfl, rfl, wx2⟩ := open_int Tryz.underlying2 (hval 2 2 v2 rfl rfl) h2
  have hx2 : (-9223372036854775808 : Int) ≤ x2 ∧ x2 ≤ 9223372036854775807 := by simpa [Lit.wf, IntKind.min, IntKind.max, IntKind.signed, IntKind.bits] using wx2
  obtain ⟨b3, rfl, rfl, rfl⟩ := open_bool Tryz.underlying4 (hval 3 4 v3 rfl rfl) h3
  have hlen := vars_len hV
  have hgs : ∃ g0 g1 g2 g3 g4 g5 g6, gs = [g0, g1, g2, g3, g4, g5, g6] := by
    match gs, hlen with
    | [g0, g1, g2, g3, g4, g5, g6], _ => exact ⟨_, _, _, _, _, _, _, rfl⟩
  obtain ⟨g0, g1, g2, g3, g4, g5, g6, rfl⟩ := hgs
  refine (fnUnknown_row x0 x1 x2 b3 hx0.1 hx0.2 hx1.1 hx1.2 hx2.1 hx2.2 W).mono fun e W' ⟨he, hb⟩ => ?_
  subst he
  exact ⟨_, rfl, _, _, _, [], _, q, hW', trodAll_mk1 (shut_bool Tryz.underlying4 _), trodAll_mk4 (shut_int Tryz.underlying5 wx0) (shut_int Tryz.underlying5 wx1) (shut_int Tryz.underlying2 wx2) (shut_bool Tryz.underlying4 _), hb.trodVars laidOut (by kernel_rfl) hV, hb.frame _, fun h => by cases h⟩
theorem said : Rows.FnUnknownSaid :=
  OpenClaim.holds_of_wide 3 Tryz.f3 rfl rfl rfl rfl rfl rfl rfl ⟨rfl, rfl, rfl, rfl, rfl⟩ rfl rfl rfl rfl rfl (by kernel_rfl) Tryz.func3 closed
    (of_decide_eq_true (by kernel_rfl)) (by unfold Func.isWrapper; first | (rw [if_pos (by decide +kernel)]; kernel_rfl) | (rw [if_neg (by decide +kernel)]; exact ⟨rfl, rfl⟩))
    (fun os started H enc _ => lifted os started H enc)
theorem plain (f : FuncId) (fn : Func) (hf : Tryz.pinned.checked.prog.funcNamed "loop.example/pub-g03250/laws.FnUnknown" = some f) (hfn : Tryz.pinned.checked.prog.funcs[f]? = some fn) :
    true = Tryz.pinned.checked.prog.looks [] ∧ ∀ (j : Nat) t, fn.params[j]? = some t → Tryz.pinned.checked.prog.wantsStandIn t = false := by
  obtain rfl : f = 3 := Option.some.inj ((show Tryz.prog.funcNamed "loop.example/pub-g03250/laws.FnUnknown" = some 3 by kernel_rfl).symm.trans hf) |>.symm
  obtain rfl : fn = Tryz.f3 := (Option.some.inj (Tryz.func3.symm.trans hfn)).symm
  refine ⟨by kernel_rfl, fun j t ht => ?_⟩
  rw [Tryz.params3] at ht
  have hm : t ∈ [5, 5, 2, 4] := by simpa using Array.mem_of_getElem? ht
  have hall : ([5, 5, 2, 4].all fun u => !Tryz.prog.wantsStandIn u) = true := by kernel_rfl
  exact (show Tryz.prog.wantsStandIn t = false by simpa using List.all_eq_true.1 hall t hm)
/-- THE CARD. -/
theorem card : Rows.FnUnknownCardSaid :=
  Claim7.holds_tied_plain_at .later [] _ _ _ _ said (fun _ h => by cases h) w1 (fun _ h => by cases h) fnUnknown_row_tie rfl ⟨rfl, rfl⟩ w2 rfl plain w3
end Go.Proofs.YtbcgeeaboecmgaaGreatDoor.fnUnknown

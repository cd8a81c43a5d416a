/- The row and the card of the law FnTexts: for every input the call returns true; each argument reads behind the call as it read before. -/
import Derived.Test.YtfppllbmieenfaaGreatDoorFnTexts
import Derived.Test.YtfppllbmieenfaaGreatDoorFnTextsFacts
import Derived.Test.YtfppllbmieenfaaGreatDoorFnTextsFactsB
import Derived.Test.YtfppllbmieenfaaGreatDoorCards
import Derived.Test.YtfppllbmieenfaaGreatDoorTie
import Derived.WalkKit
import Derived.ProofKit
import Derived.OpenShut
import Derived.Lay
import Derived.OpenVars
import Derived.MakeChecks
import Derived.SevenTiedAt
namespace Go.Proofs.YtfppllbmieenfaaGreatDoor.fnTexts
open Go.ChangeShapes Go.WideShapes Go.ChangeAt Go.RowKit Go.ChangeMaps
set_option linter.unusedVariables false

theorem own : ownKnob Tryz.prog.godebug = none := by kernel_rfl
theorem laidOut : laidOutB Tryz.prog = true := by kernel_rfl
theorem vars_len {H : Type} {enc : TypeId × Value → H} {P : Program} {W : World} {sp : Nat → Bool} : ∀ {ns : List String} {gs : List (DataW H)} {ps : List MemPlace}, DataW.TrodVars enc P W sp ns gs ps → gs.length = ns.length
  | [], [], _, _ => rfl
  | [], _ :: _, _, h => h.elim
  | _ :: _, [], _, h => h.elim
  | _ :: ns, _ :: ds, _, h => by
    obtain ⟨g, t, cs, f, p, q, _, _, _, _, hs, _⟩ := h
    simp only [List.length_cons, vars_len hs]
set_option maxRecDepth 100000 in
theorem lifted (os : Os) (started : os.Started) (H : Type) (enc : TypeId × Value → H) :
    ReturnsInHanded {} Tryz.checked os 3 .any (fun w args => (Rows.fnTextsSpec.pre enc Tryz.prog Tryz.f3 [] false w args ∧ laidMetH Tryz.prog Rows.fnTextsRow.laid w) ∧ sizedMet enc Tryz.prog Tryz.f3 (OpenSpec.ofChange Rows.fnTextsSpec) false w args)
      (Rows.fnTextsSpec.post enc Tryz.prog Tryz.f3 false true false false) := by
  refine returnsInHanded_of_change_and (C := Tryz.checked) (X := fun w _ => laidMetH Tryz.prog Rows.fnTextsRow.laid w) (fun _ _ _ hh h => h.of_heap hh) own started (by kernel_rfl) Tryz.func3
    (ChangeSpec.witness_shaped (enc := enc) (C := Tryz.checked) (os := os) (X := fun w _ => laidMetH Tryz.prog Rows.fnTextsRow.laid w) false (World.laidAll Tryz.prog os Rows.fnTextsRow.laid) #[.int .u8 0, .string ⟨#[]⟩, .string ⟨#[]⟩] 12 (World.laidAll_os _ _ _)
      (World.shaped_of_ZipB (by kernel_rfl) (by kernel_rfl)) (by kernel_rfl) (by kernel_rfl) (by kernel_rfl)
      (by rw [MakeChecks.laidMetH_plain _ _ _ (by kernel_rfl)]; exact laidMet_laidAll _ (by kernel_rfl) (by kernel_rfl))) ?_
  intro W base args ds gs before hval0 hW _ _ hL _
  have hval : ∀ (j : Nat) t v, Tryz.f3.params[j]? = some t → args[j]? = some v → Value.okWide Tryz.prog W .any base t v := hval0
  have hW' := hW
  obtain ⟨p, q, hA0, hV, rfl, _, _⟩ := hW
  have hA : DataW.TrodAll enc Tryz.prog W 0 (fun _ => true) true Tryz.f3.params.toList args.toList ds p := hA0
  rw [Tryz.params3] at hA hval

  obtain ⟨v0, v1, v2, d0, d1, d2, p0, p1, p2, rfl, rfl, rfl, h0, h1, h2⟩ := trodAll_three hA
  obtain ⟨x0, rfl, rfl, rfl, wx0⟩ := open_int Tryz.underlying5 (hval 0 5 v0 rfl rfl) h0
  have hx0 : (0 : Int) ≤ x0 ∧ x0 ≤ 255 := by simpa [Lit.wf, IntKind.min, IntKind.max, IntKind.signed, IntKind.bits] using wx0
  obtain ⟨s1, rfl, rfl, rfl, z1⟩ := open_string Tryz.underlying9 (hval 1 9 v1 rfl rfl) h1
  obtain ⟨s2, rfl, rfl, rfl, z2⟩ := open_string Tryz.underlying9 (hval 2 9 v2 rfl rfl) h2
  have hlen := vars_len hV
  have hgs : ∃ g0 g1 g2 g3 g4 g5 g6, gs = [g0, g1, g2, g3, g4, g5, g6] := by
    match gs, hlen with
    | [g0, g1, g2, g3, g4, g5, g6], _ => exact ⟨_, _, _, _, _, _, _, rfl⟩
  obtain ⟨g0, g1, g2, g3, g4, g5, g6, rfl⟩ := hgs
  refine (fnTexts_any x0 s1 s2 hx0.1 hx0.2 z1 z2 W).mono fun e W' ⟨he, hb⟩ => ?_
  subst he
  exact ⟨_, rfl, _, _, _, [], _, q, hW', trodAll_mk1 (shut_bool Tryz.underlying4 _), trodAll_mk3 (shut_int Tryz.underlying5 wx0) (shut_string Tryz.underlying9 z1) (shut_string Tryz.underlying9 z2), hb.trodVars laidOut (by kernel_rfl) hV, hb.frame _, fun h => by cases h⟩
theorem said : Rows.FnTextsSaid :=
  OpenClaim.holds_of_wide 3 Tryz.f3 rfl rfl rfl rfl rfl rfl rfl ⟨rfl, rfl, rfl, rfl, rfl⟩ rfl rfl rfl rfl rfl (by kernel_rfl) Tryz.func3 closed
    (of_decide_eq_true (by kernel_rfl)) (by unfold Func.isWrapper; first | (rw [if_pos (by decide +kernel)]; kernel_rfl) | (rw [if_neg (by decide +kernel)]; exact ⟨rfl, rfl⟩))
    (fun os started H enc _ => lifted os started H enc)
theorem plain (f : FuncId) (fn : Func) (hf : Tryz.pinned.checked.prog.funcNamed "loop.example/pub-g03250/laws.FnTexts" = some f) (hfn : Tryz.pinned.checked.prog.funcs[f]? = some fn) :
    true = Tryz.pinned.checked.prog.looks [] ∧ ∀ (j : Nat) t, fn.params[j]? = some t → Tryz.pinned.checked.prog.wantsStandIn t = false := by
  obtain rfl : f = 3 := Option.some.inj ((show Tryz.prog.funcNamed "loop.example/pub-g03250/laws.FnTexts" = some 3 by kernel_rfl).symm.trans hf) |>.symm
  obtain rfl : fn = Tryz.f3 := (Option.some.inj (Tryz.func3.symm.trans hfn)).symm
  refine ⟨by kernel_rfl, fun j t ht => ?_⟩
  rw [Tryz.params3] at ht
  have hm : t ∈ [5, 9, 9] := by simpa using Array.mem_of_getElem? ht
  have hall : ([5, 9, 9].all fun u => !Tryz.prog.wantsStandIn u) = true := by kernel_rfl
  exact (show Tryz.prog.wantsStandIn t = false by simpa using List.all_eq_true.1 hall t hm)
/-- THE CARD. -/
theorem card : Rows.FnTextsCardSaid :=
  Claim7.holds_tied_plain_at .later [] _ _ _ _ said (fun _ h => by cases h) w1 (fun _ h => by cases h) fnTexts_row_tie rfl ⟨rfl, rfl⟩ w2 rfl plain w3
end Go.Proofs.YtfppllbmieenfaaGreatDoor.fnTexts

/- The row and the card of the law FnText: for every input the call returns true; each argument reads behind the call as it read before. -/
import Derived.Test.YtamkkdeloknjiaaGreatDoorFnText
import Derived.Test.YtamkkdeloknjiaaGreatDoorFnTextFacts
import Derived.Test.YtamkkdeloknjiaaGreatDoorFnTextFactsB
import Derived.Test.YtamkkdeloknjiaaGreatDoorCards
import Derived.Test.YtamkkdeloknjiaaGreatDoorTie
import Derived.WalkKit
import Derived.ProofKit
import Derived.OpenShut
import Derived.Lay
import Derived.OpenVars
import Derived.MakeChecks
import Derived.Stop.LaidErr
import Derived.Lib.LaidU8
import Derived.SevenTiedAt
namespace Go.Proofs.YtamkkdeloknjiaaGreatDoor.fnText
open Go.ChangeShapes Go.WideShapes Go.ChangeAt Go.RowKit Go.ChangeMaps
set_option linter.unusedVariables false

theorem own : ownKnob Tryz.prog.godebug = none := by kernel_rfl
theorem laidOut : laidOutB Tryz.prog = true := by kernel_rfl
theorem gErr : Tryz.prog.globalNamed "strconv.ErrSyntax" = some 0 := by kernel_rfl
theorem gErrType : (Tryz.prog.globals[0]?).map (·.type) = some 60 := by kernel_rfl
theorem cellsE : Tryz.prog.cellsOf 263 = 1 := by kernel_rfl
theorem cellsS : Tryz.prog.cellsOf 9 = 1 := by kernel_rfl
theorem star : "*" ++ "errors.errorString" = "*errors.errorString" := by decide
theorem rowP (u : TypeId) (h : Tryz.prog.typeName? 3 u = some "*errors.errorString") : u = 261 :=
  typeName_ptr_named (nm := "errors.errorString") (by rw [star]; kernel_rfl) (by kernel_rfl) (by decide) u (by rw [star]; exact h)
theorem plainLaid (W : World) (h : laidMetH Tryz.prog Rows.fnTextRow.laid W) : laidMet Tryz.prog Rows.fnTextRow.laid W := by
  rw [MakeChecks.laidMetH_plain _ _ _ (by kernel_rfl)] at h
  exact h
/-- What the row's list gives: the variable of the syntax error. -/
theorem err_of {W : World} (h : laidMet Tryz.prog Rows.fnTextRow.laid W) : ∃ t v, ErrAt W t v := by
  have h5 := h.tail.tail.tail.tail.tail
  obtain ⟨a, s, hv, _⟩ := laid_sentinel h5 gErr gErrType Tryz.underlying60 rowP Tryz.underlying261 Tryz.underlying263 rfl rfl Tryz.underlying9 cellsE cellsS
  exact ⟨_, _, World.var?_cell gErr hv 0⟩
theorem u8 : U8Extra Tryz.prog Tryz.lays260_ren := { n3 := by kernel_rfl, n4 := by kernel_rfl, y3 := by kernel_rfl, y4 := by kernel_rfl, c5 := by kernel_rfl, c119 := by kernel_rfl, c138 := by kernel_rfl }
theorem first_same : Rows.laid_unicode_utf8_first = Lib.firstData := by kernel_rfl
theorem accept_same : (Rows.laid_unicode_utf8_acceptRanges : DataW Unit) = Lib.acceptData := by kernel_rfl
/-- .. and the two tables of the decoder. -/
theorem tabs_of {W : World} (h : laidMet Tryz.prog Rows.fnTextRow.laid W) : Lib.Utf8Tabs 6 7 W := by
  have h1 := Lib.laidMet.reads h (n := "unicode/utf8.first") (d := Rows.laid_unicode_utf8_first) (by simp [Rows.fnTextRow])
  have h2 := Lib.laidMet.reads h (n := "unicode/utf8.acceptRanges") (d := Rows.laid_unicode_utf8_acceptRanges) (by simp [Rows.fnTextRow])
  rw [first_same] at h1
  rw [accept_same] at h2
  exact utf8Tabs_of_reads Tryz.lays260 u8 h1 h2
theorem vars_len {H : Type} {enc : TypeId × Value → H} {P : Program} {W : World} {sp : Nat → Bool} : ∀ {ns : List String} {gs : List (DataW H)} {ps : List MemPlace}, DataW.TrodVars enc P W sp ns gs ps → gs.length = ns.length
  | [], [], _, _ => rfl
  | [], _ :: _, _, h => h.elim
  | _ :: _, [], _, h => h.elim
  | _ :: ns, _ :: ds, _, h => by
    obtain ⟨g, t, cs, f, p, q, _, _, _, _, hs, _⟩ := h
    simp only [List.length_cons, vars_len hs]
set_option maxRecDepth 100000 in
theorem lifted (os : Os) (started : os.Started) (H : Type) (enc : TypeId × Value → H) :
    ReturnsInHanded {} Tryz.checked os 3 .any (fun w args => (Rows.fnTextSpec.pre enc Tryz.prog Tryz.f3 [] false w args ∧ laidMetH Tryz.prog Rows.fnTextRow.laid w) ∧ sizedMet enc Tryz.prog Tryz.f3 (OpenSpec.ofChange Rows.fnTextSpec) false w args)
      (Rows.fnTextSpec.post enc Tryz.prog Tryz.f3 false true false false) := by
  refine returnsInHanded_of_change_and (C := Tryz.checked) (X := fun w _ => laidMetH Tryz.prog Rows.fnTextRow.laid w) (fun _ _ _ hh h => h.of_heap hh) own started (by kernel_rfl) Tryz.func3
    (ChangeSpec.witness_shaped (enc := enc) (C := Tryz.checked) (os := os) (X := fun w _ => laidMetH Tryz.prog Rows.fnTextRow.laid w) false (World.laidAll Tryz.prog os Rows.fnTextRow.laid) #[.string ⟨#[]⟩] 12 (World.laidAll_os _ _ _)
      (World.shaped_of_ZipB (by kernel_rfl) (by kernel_rfl)) (by kernel_rfl) (by kernel_rfl) (by kernel_rfl)
      (by rw [MakeChecks.laidMetH_plain _ _ _ (by kernel_rfl)]; exact laidMet_laidAll _ (by kernel_rfl) (by kernel_rfl))) ?_
  intro W base args ds gs before hval0 hW _ _ hL _
  have hval : ∀ (j : Nat) t v, Tryz.f3.params[j]? = some t → args[j]? = some v → Value.okWide Tryz.prog W .any base t v := hval0
  have hW' := hW
  obtain ⟨p, q, hA0, hV, rfl, _, _⟩ := hW
  have hA : DataW.TrodAll enc Tryz.prog W 0 (fun _ => true) true Tryz.f3.params.toList args.toList ds p := hA0
  rw [Tryz.params3] at hA hval

  have hLL := plainLaid W hL
  obtain ⟨te, ve, hE⟩ := err_of hLL
  have hT := tabs_of hLL
  obtain ⟨v0, d0, rfl, rfl, h0⟩ := trodAll_one hA
  obtain ⟨s, rfl, rfl, rfl, hs⟩ := open_string Tryz.underlying9 (hval 0 9 v0 rfl rfl) h0
  have hlen := vars_len hV
  have hgs : ∃ g0 g1 g2 g3 g4 g5 g6, gs = [g0, g1, g2, g3, g4, g5, g6] := by
    match gs, hlen with
    | [g0, g1, g2, g3, g4, g5, g6], _ => exact ⟨_, _, _, _, _, _, _, rfl⟩
  obtain ⟨g0, g1, g2, g3, g4, g5, g6, rfl⟩ := hgs
  refine (fnText_any s hs te ve W hE hT).mono fun e W' ⟨he, hb⟩ => ?_
  subst he
  exact ⟨_, rfl, _, _, _, [], [], q, hW', trodAll_mk1 (shut_bool Tryz.underlying4 _), trodAll_mk1 (shut_string Tryz.underlying9 hs), hb.trodVars laidOut (by kernel_rfl) hV, hb.frame _, fun h => by cases h⟩
theorem said : Rows.FnTextSaid :=
  OpenClaim.holds_of_wide 3 Tryz.f3 rfl rfl rfl rfl rfl rfl rfl ⟨rfl, rfl, rfl, rfl, rfl⟩ rfl rfl rfl rfl rfl (by kernel_rfl) Tryz.func3 closed
    (of_decide_eq_true (by kernel_rfl)) (by unfold Func.isWrapper; first | (rw [if_pos (by decide +kernel)]; kernel_rfl) | (rw [if_neg (by decide +kernel)]; exact ⟨rfl, rfl⟩))
    (fun os started H enc _ => lifted os started H enc)
theorem plain (f : FuncId) (fn : Func) (hf : Tryz.pinned.checked.prog.funcNamed "loop.example/pub-g03250/laws.FnText" = some f) (hfn : Tryz.pinned.checked.prog.funcs[f]? = some fn) :
    true = Tryz.pinned.checked.prog.looks [] ∧ ∀ (j : Nat) t, fn.params[j]? = some t → Tryz.pinned.checked.prog.wantsStandIn t = false := by
  obtain rfl : f = 3 := Option.some.inj ((show Tryz.prog.funcNamed "loop.example/pub-g03250/laws.FnText" = some 3 by kernel_rfl).symm.trans hf) |>.symm
  obtain rfl : fn = Tryz.f3 := (Option.some.inj (Tryz.func3.symm.trans hfn)).symm
  refine ⟨by kernel_rfl, fun j t ht => ?_⟩
  rw [Tryz.params3] at ht
  have hm : t ∈ [9] := by simpa using Array.mem_of_getElem? ht
  have hall : ([9].all fun u => !Tryz.prog.wantsStandIn u) = true := by kernel_rfl
  exact (show Tryz.prog.wantsStandIn t = false by simpa using List.all_eq_true.1 hall t hm)
/-- THE CARD. -/
theorem card : Rows.FnTextCardSaid :=
  Claim7.holds_tied_plain_at .later [] _ _ _ _ said (fun _ h => by cases h) w1 (fun _ h => by cases h) fnText_row_tie rfl ⟨rfl, rfl⟩ w2 rfl plain w3
end Go.Proofs.YtamkkdeloknjiaaGreatDoor.fnText

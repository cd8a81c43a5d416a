/- The row and the card of the law FnInt: for every input the call returns true; each argument reads behind the call as it read before. -/
import Derived.Test.YtnhonclncjgjoaaGreatDoorFnInt
import Derived.Test.YtnhonclncjgjoaaGreatDoorFnIntFacts
import Derived.Test.YtnhonclncjgjoaaGreatDoorFnIntFactsB
import Derived.Test.YtnhonclncjgjoaaGreatDoorCards
import Derived.Test.YtnhonclncjgjoaaGreatDoorTie
import Derived.WalkKit
import Derived.ProofKit
import Derived.OpenShut
import Derived.Lay
import Derived.OpenVars
import Derived.MakeChecks
import Derived.Stop.LaidErr
import Derived.Lib.LaidU8
import Derived.SevenTiedAt
namespace Go.Proofs.YtnhonclncjgjoaaGreatDoor.fnInt
open Go.ChangeShapes Go.WideShapes Go.ChangeAt Go.RowKit Go.ChangeMaps
set_option linter.unusedVariables false

theorem own : ownKnob Tryz.prog.godebug = none := by kernel_rfl
theorem laidOut : laidOutB Tryz.prog = true := by kernel_rfl
theorem gErr : Tryz.prog.globalNamed "strconv.ErrSyntax" = some 0 := by kernel_rfl
theorem gErrType : (Tryz.prog.globals[0]?).map (·.type) = some 64 := by kernel_rfl
theorem cellsE : Tryz.prog.cellsOf 263 = 1 := by kernel_rfl
theorem cellsS : Tryz.prog.cellsOf 9 = 1 := by kernel_rfl
theorem star : "*" ++ "errors.errorString" = "*errors.errorString" := by decide
theorem rowP (u : TypeId) (h : Tryz.prog.typeName? 3 u = some "*errors.errorString") : u = 261 :=
  typeName_ptr_named (nm := "errors.errorString") (by rw [star]; kernel_rfl) (by kernel_rfl) (by decide) u (by rw [star]; exact h)
theorem plainLaid (W : World) (h : laidMetH Tryz.prog Rows.fnIntRow.laid W) : laidMet Tryz.prog Rows.fnIntRow.laid W := by
  rw [MakeChecks.laidMetH_plain _ _ _ (by kernel_rfl)] at h
  exact h
theorem gS1 : Tryz.prog.globalNamed "strconv.ErrSyntax" = some 0 := by kernel_rfl
theorem gS1Type : (Tryz.prog.globals[0]?).map (·.type) = some 64 := by kernel_rfl
theorem errS1 {W : World} (h : laidMet Tryz.prog Rows.fnIntRow.laid W) : ∃ a, W.cell? ⟨0, 0, none⟩ = some (.iface 261 (.pointer (some a))) := by
  have h5 := h
  obtain ⟨a, s, hv, _⟩ := laid_sentinel h5 gS1 gS1Type Tryz.underlying64 rowP Tryz.underlying261 Tryz.underlying263 rfl rfl Tryz.underlying9 cellsE cellsS
  exact ⟨a, World.var?_cell gS1 hv 0⟩
theorem gS2 : Tryz.prog.globalNamed "strconv.ErrRange" = some 2 := by kernel_rfl
theorem gS2Type : (Tryz.prog.globals[2]?).map (·.type) = some 64 := by kernel_rfl
theorem errS2 {W : World} (h : laidMet Tryz.prog Rows.fnIntRow.laid W) : ∃ a, W.cell? ⟨2, 0, none⟩ = some (.iface 261 (.pointer (some a))) := by
  have h5 := h.tail
  obtain ⟨a, s, hv, _⟩ := laid_sentinel h5 gS2 gS2Type Tryz.underlying64 rowP Tryz.underlying261 Tryz.underlying263 rfl rfl Tryz.underlying9 cellsE cellsS
  exact ⟨a, World.var?_cell gS2 hv 0⟩
theorem gS3 : Tryz.prog.globalNamed "io.EOF" = some 1 := by kernel_rfl
theorem gS3Type : (Tryz.prog.globals[1]?).map (·.type) = some 64 := by kernel_rfl
theorem errS3 {W : World} (h : laidMet Tryz.prog Rows.fnIntRow.laid W) : ∃ a, W.cell? ⟨1, 0, none⟩ = some (.iface 261 (.pointer (some a))) := by
  have h5 := h.tail.tail.tail.tail.tail
  obtain ⟨a, s, hv, _⟩ := laid_sentinel h5 gS3 gS3Type Tryz.underlying64 rowP Tryz.underlying261 Tryz.underlying263 rfl rfl Tryz.underlying9 cellsE cellsS
  exact ⟨a, World.var?_cell gS3 hv 0⟩
theorem gS4 : Tryz.prog.globalNamed "loop.example/pub-g03250/pub/bigall.errInvalSep" = some 3 := by kernel_rfl
theorem gS4Type : (Tryz.prog.globals[3]?).map (·.type) = some 64 := by kernel_rfl
theorem errS4 {W : World} (h : laidMet Tryz.prog Rows.fnIntRow.laid W) : ∃ a, W.cell? ⟨3, 0, none⟩ = some (.iface 261 (.pointer (some a))) := by
  have h5 := h.tail.tail.tail.tail.tail.tail
  obtain ⟨a, s, hv, _⟩ := laid_sentinel h5 gS4 gS4Type Tryz.underlying64 rowP Tryz.underlying261 Tryz.underlying263 rfl rfl Tryz.underlying9 cellsE cellsS
  exact ⟨a, World.var?_cell gS4 hv 0⟩
theorem gS5 : Tryz.prog.globalNamed "loop.example/pub-g03250/pub/bigall.errNoDigits" = some 4 := by kernel_rfl
theorem gS5Type : (Tryz.prog.globals[4]?).map (·.type) = some 64 := by kernel_rfl
theorem errS5 {W : World} (h : laidMet Tryz.prog Rows.fnIntRow.laid W) : ∃ a, W.cell? ⟨4, 0, none⟩ = some (.iface 261 (.pointer (some a))) := by
  have h5 := h.tail.tail.tail.tail.tail.tail.tail
  obtain ⟨a, s, hv, _⟩ := laid_sentinel h5 gS5 gS5Type Tryz.underlying64 rowP Tryz.underlying261 Tryz.underlying263 rfl rfl Tryz.underlying9 cellsE cellsS
  exact ⟨a, World.var?_cell gS5 hv 0⟩
theorem vars_len {H : Type} {enc : TypeId × Value → H} {P : Program} {W : World} {sp : Nat → Bool} : ∀ {ns : List String} {gs : List (DataW H)} {ps : List MemPlace}, DataW.TrodVars enc P W sp ns gs ps → gs.length = ns.length
  | [], [], _, _ => rfl
  | [], _ :: _, _, h => h.elim
  | _ :: _, [], _, h => h.elim
  | _ :: ns, _ :: ds, _, h => by
    obtain ⟨g, t, cs, f, p, q, _, _, _, _, hs, _⟩ := h
    simp only [List.length_cons, vars_len hs]
set_option maxRecDepth 100000 in
theorem lifted (os : Os) (started : os.Started) (H : Type) (enc : TypeId × Value → H) :
    ReturnsInHanded {} Tryz.checked os 3 .any (fun w args => (Rows.fnIntSpec.pre enc Tryz.prog Tryz.f3 [] false w args ∧ laidMetH Tryz.prog Rows.fnIntRow.laid w) ∧ sizedMet enc Tryz.prog Tryz.f3 (OpenSpec.ofChange Rows.fnIntSpec) false w args)
      (Rows.fnIntSpec.post enc Tryz.prog Tryz.f3 false true false false) := by
  refine returnsInHanded_of_change_and (C := Tryz.checked) (X := fun w _ => laidMetH Tryz.prog Rows.fnIntRow.laid w) (fun _ _ _ hh h => h.of_heap hh) own started (by kernel_rfl) Tryz.func3
    (ChangeSpec.witness_shaped (enc := enc) (C := Tryz.checked) (os := os) (X := fun w _ => laidMetH Tryz.prog Rows.fnIntRow.laid w) false (World.laidAll Tryz.prog os Rows.fnIntRow.laid) #[.string ⟨#[]⟩] 12 (World.laidAll_os _ _ _)
      (World.shaped_of_ZipB (by kernel_rfl) (by kernel_rfl)) (by kernel_rfl) (by kernel_rfl) (by kernel_rfl)
      (by rw [MakeChecks.laidMetH_plain _ _ _ (by kernel_rfl)]; exact laidMet_laidAll _ (by kernel_rfl) (by kernel_rfl))) ?_
  intro W base args ds gs before hval0 hW _ _ hL _
  have hval : ∀ (j : Nat) t v, Tryz.f3.params[j]? = some t → args[j]? = some v → Value.okWide Tryz.prog W .any base t v := hval0
  have hW' := hW
  obtain ⟨p, q, hA0, hV, rfl, _, _⟩ := hW
  have hA : DataW.TrodAll enc Tryz.prog W 0 (fun _ => true) true Tryz.f3.params.toList args.toList ds p := hA0
  rw [Tryz.params3] at hA hval

  have hLL := plainLaid W hL
  obtain ⟨a1, hS1⟩ := errS1 hLL
  obtain ⟨a2, hS2⟩ := errS2 hLL
  obtain ⟨a3, hS3⟩ := errS3 hLL
  obtain ⟨a4, hS4⟩ := errS4 hLL
  obtain ⟨a5, hS5⟩ := errS5 hLL
  obtain ⟨v0, d0, rfl, rfl, h0⟩ := trodAll_one hA
  obtain ⟨s, rfl, rfl, rfl, hs⟩ := open_string Tryz.underlying9 (hval 0 9 v0 rfl rfl) h0
  have hlen := vars_len hV
  have hgs : ∃ g0 g1 g2 g3 g4 g5 g6, gs = [g0, g1, g2, g3, g4, g5, g6] := by
    match gs, hlen with
    | [g0, g1, g2, g3, g4, g5, g6], _ => exact ⟨_, _, _, _, _, _, _, rfl⟩
  obtain ⟨g0, g1, g2, g3, g4, g5, g6, rfl⟩ := hgs
  refine (fnInt_any s hs _ _ _ _ a3 _ _ _ _ W ⟨hS1, hS2⟩ ⟨hS3, hS4, hS5⟩).mono fun e W' ⟨he, hb⟩ => ?_
  subst he
  exact ⟨_, rfl, _, _, _, [], [], q, hW', trodAll_mk1 (shut_bool Tryz.underlying4 _), trodAll_mk1 (shut_string Tryz.underlying9 hs), hb.trodVars laidOut (by kernel_rfl) hV, hb.frame _, fun h => by cases h⟩
theorem said : Rows.FnIntSaid :=
  OpenClaim.holds_of_wide 3 Tryz.f3 rfl rfl rfl rfl rfl rfl rfl ⟨rfl, rfl, rfl, rfl, rfl⟩ rfl rfl rfl rfl rfl (by kernel_rfl) Tryz.func3 closed
    (of_decide_eq_true (by kernel_rfl)) (by unfold Func.isWrapper; first | (rw [if_pos (by decide +kernel)]; kernel_rfl) | (rw [if_neg (by decide +kernel)]; exact ⟨rfl, rfl⟩))
    (fun os started H enc _ => lifted os started H enc)
theorem plain (f : FuncId) (fn : Func) (hf : Tryz.pinned.checked.prog.funcNamed "loop.example/pub-g03250/laws.FnInt" = some f) (hfn : Tryz.pinned.checked.prog.funcs[f]? = some fn) :
    true = Tryz.pinned.checked.prog.looks [] ∧ ∀ (j : Nat) t, fn.params[j]? = some t → Tryz.pinned.checked.prog.wantsStandIn t = false := by
  obtain rfl : f = 3 := Option.some.inj ((show Tryz.prog.funcNamed "loop.example/pub-g03250/laws.FnInt" = some 3 by kernel_rfl).symm.trans hf) |>.symm
  obtain rfl : fn = Tryz.f3 := (Option.some.inj (Tryz.func3.symm.trans hfn)).symm
  refine ⟨by kernel_rfl, fun j t ht => ?_⟩
  rw [Tryz.params3] at ht
  have hm : t ∈ [9] := by simpa using Array.mem_of_getElem? ht
  have hall : ([9].all fun u => !Tryz.prog.wantsStandIn u) = true := by kernel_rfl
  exact (show Tryz.prog.wantsStandIn t = false by simpa using List.all_eq_true.1 hall t hm)
/-- THE CARD. -/
theorem card : Rows.FnIntCardSaid :=
  Claim7.holds_tied_plain_at .later [] _ _ _ _ said (fun _ h => by cases h) w1 (fun _ h => by cases h) fnInt_row_tie rfl ⟨rfl, rfl⟩ w2 rfl plain w3
end Go.Proofs.YtnhonclncjgjoaaGreatDoor.fnInt

/- The row and the card of the law FnTextJoined: for every input the call returns true; each argument reads behind the call as it read before. -/
import Derived.Test.YtlfmgidpdmmpkaaGreatDoorFnJoin
import Derived.Test.YtlfmgidpdmmpkaaGreatDoorFnTextJoinedFacts
import Derived.Test.YtlfmgidpdmmpkaaGreatDoorFnTextJoinedFactsB
import Derived.Test.YtlfmgidpdmmpkaaGreatDoorCards
import Derived.Test.YtlfmgidpdmmpkaaGreatDoorTie
import Derived.WalkKit
import Derived.ProofKit
import Derived.OpenShut
import Derived.Lay
import Derived.OpenVars
import Derived.MakeChecks
import Derived.Stop.LaidErr
import Derived.Lib.LaidU8
import Derived.SevenTiedAt
namespace Go.Proofs.YtlfmgidpdmmpkaaGreatDoor.fnTextJoined
open Go.ChangeShapes Go.WideShapes Go.ChangeAt Go.RowKit Go.ChangeMaps
set_option linter.unusedVariables false

theorem own : ownKnob Tryz.prog.godebug = none := by kernel_rfl
theorem laidOut : laidOutB Tryz.prog = true := by kernel_rfl
theorem gErr : Tryz.prog.globalNamed "strconv.ErrSyntax" = some 0 := by kernel_rfl
theorem gErrType : (Tryz.prog.globals[0]?).map (·.type) = some 54 := by kernel_rfl
theorem cellsE : Tryz.prog.cellsOf 308 = 1 := by kernel_rfl
theorem cellsS : Tryz.prog.cellsOf 9 = 1 := by kernel_rfl
theorem star : "*" ++ "errors.errorString" = "*errors.errorString" := by decide
theorem rowP (u : TypeId) (h : Tryz.prog.typeName? 3 u = some "*errors.errorString") : u = 306 :=
  typeName_ptr_named (nm := "errors.errorString") (by rw [star]; kernel_rfl) (by kernel_rfl) (by decide) u (by rw [star]; exact h)
theorem plainLaid (W : World) (h : laidMetH Tryz.prog Rows.fnTextJoinedRow.laid W) : laidMet Tryz.prog Rows.fnTextJoinedRow.laid W := by
  rw [MakeChecks.laidMetH_plain _ _ _ (by kernel_rfl)] at h
  exact h
/-- What the row's list gives: the variable of the syntax error. -/
theorem err_of {W : World} (h : laidMet Tryz.prog Rows.fnTextJoinedRow.laid W) : ∃ t v, ErrAt W t v := by
  have h5 := h.tail.tail.tail.tail.tail
  obtain ⟨a, s, hv, _⟩ := laid_sentinel h5 gErr gErrType Tryz.underlying54 rowP Tryz.underlying306 Tryz.underlying308 rfl rfl Tryz.underlying9 cellsE cellsS
  exact ⟨_, _, World.var?_cell gErr hv 0⟩
theorem u8 : U8Extra Tryz.prog Tryz.lays260_ren := { n3 := by kernel_rfl, n4 := by kernel_rfl, y3 := by kernel_rfl, y4 := by kernel_rfl, c5 := by kernel_rfl, c119 := by kernel_rfl, c138 := by kernel_rfl }
theorem first_same : Rows.laid_unicode_utf8_first = Lib.firstData := by kernel_rfl
theorem accept_same : (Rows.laid_unicode_utf8_acceptRanges : DataW Unit) = Lib.acceptData := by kernel_rfl
/-- .. and the two tables of the decoder. -/
theorem tabs_of {W : World} (h : laidMet Tryz.prog Rows.fnTextJoinedRow.laid W) : Lib.Utf8Tabs 8 9 W := by
  have h1 := Lib.laidMet.reads h (n := "unicode/utf8.first") (d := Rows.laid_unicode_utf8_first) (by simp [Rows.fnTextJoinedRow])
  have h2 := Lib.laidMet.reads h (n := "unicode/utf8.acceptRanges") (d := Rows.laid_unicode_utf8_acceptRanges) (by simp [Rows.fnTextJoinedRow])
  rw [first_same] at h1
  rw [accept_same] at h2
  exact utf8Tabs_of_reads Tryz.lays260 u8 h1 h2
theorem vars_len {H : Type} {enc : TypeId × Value → H} {P : Program} {W : World} {sp : Nat → Bool} : ∀ {ns : List String} {gs : List (DataW H)} {ps : List MemPlace}, DataW.TrodVars enc P W sp ns gs ps → gs.length = ns.length
  | [], [], _, _ => rfl
  | [], _ :: _, _, h => h.elim
  | _ :: _, [], _, h => h.elim
  | _ :: ns, _ :: ds, _, h => by
    obtain ⟨g, t, cs, f, p, q, _, _, _, _, hs, _⟩ := h
    simp only [List.length_cons, vars_len hs]
set_option maxRecDepth 100000 in
theorem lifted (os : Os) (started : os.Started) (H : Type) (enc : TypeId × Value → H) :
    ReturnsInHanded {} Tryz.checked os 3 .any (fun w args => (Rows.fnTextJoinedSpec.pre enc Tryz.prog Tryz.f3 [] false w args ∧ laidMetH Tryz.prog Rows.fnTextJoinedRow.laid w) ∧ sizedMet enc Tryz.prog Tryz.f3 (OpenSpec.ofChange Rows.fnTextJoinedSpec) false w args)
      (Rows.fnTextJoinedSpec.post enc Tryz.prog Tryz.f3 false true false false) := by
  refine returnsInHanded_of_change_and (C := Tryz.checked) (X := fun w _ => laidMetH Tryz.prog Rows.fnTextJoinedRow.laid w) (fun _ _ _ hh h => h.of_heap hh) own started (by kernel_rfl) Tryz.func3
    (ChangeSpec.witness_shaped (enc := enc) (C := Tryz.checked) (os := os) (X := fun w _ => laidMetH Tryz.prog Rows.fnTextJoinedRow.laid w) false (World.laidAll Tryz.prog os Rows.fnTextJoinedRow.laid) #[.string ⟨#[]⟩, .string ⟨#[]⟩, .slice none 0 0] 12 (World.laidAll_os _ _ _)
      (World.shaped_of_ZipB (by kernel_rfl) (by kernel_rfl)) (by kernel_rfl) (by kernel_rfl) (by kernel_rfl)
      (by rw [MakeChecks.laidMetH_plain _ _ _ (by kernel_rfl)]; exact laidMet_laidAll _ (by kernel_rfl) (by kernel_rfl))) ?_
  intro W base args ds gs before hval0 hW _ _ hL _
  have hval : ∀ (j : Nat) t v, Tryz.f3.params[j]? = some t → args[j]? = some v → Value.okWide Tryz.prog W .any base t v := hval0
  have hW' := hW
  obtain ⟨p, q, hA0, hV, rfl, _, _⟩ := hW
  have hA : DataW.TrodAll enc Tryz.prog W 0 (fun _ => true) true Tryz.f3.params.toList args.toList ds p := hA0
  rw [Tryz.params3] at hA hval

  have hLL := plainLaid W hL
  obtain ⟨te, ve, hE⟩ := err_of hLL
  have hT := tabs_of hLL
  obtain ⟨v0, v1, v2, d0, d1, d2, p0, p1, p2, rfl, rfl, rfl, h0, h1, h2⟩ := trodAll_three hA
  obtain ⟨s0, rfl, rfl, rfl, z0⟩ := open_string Tryz.underlying9 (hval 0 9 v0 rfl rfl) h0
  obtain ⟨s1, rfl, rfl, rfl, z1⟩ := open_string Tryz.underlying9 (hval 1 9 v1 rfl rfl) h1
  obtain ⟨a2, len2, cap2, rfl⟩ := okWide_slice Tryz.underlying22 (hval 2 22 v2 rfl rfl)
  have k2 := h2
  have lt2 : ∀ x ∈ p2, x.block < W.heap.size := by obtain ⟨m, hm⟩ := k2; exact DataW.trod_lt m _ _ _ hm
  have w2 : ∃ zs : List Int, (a2 = none ∧ len2 = 0 ∧ cap2 = 0 ∧ zs = []) ∨ ∃ x, a2 = some x ∧ len2 ≤ cap2 ∧ cap2 ≤ maxLen ∧ zs.length = cap2 ∧ (∀ i, i < zs.length → W.cell? (x.add i) = some (.int .u8 (zs.getD i 0))) ∧ ∀ n ∈ zs, (Lit.int .u8 n).wf = true := by
    obtain ⟨fuel, hf⟩ := h2
    rcases open_ints Tryz.underlying22 Tryz.underlying5 (by kernel_rfl) hf with ⟨hcs, _⟩ | ⟨x, l, c, zs, hcs, _, hl, hm, hz, _, hcell, hwz⟩
    · simp [Value.cells] at hcs
      obtain ⟨rfl, rfl, rfl⟩ := hcs
      exact ⟨[], .inl ⟨rfl, rfl, rfl, rfl⟩⟩
    · simp [Value.cells] at hcs
      obtain ⟨rfl, rfl, rfl⟩ := hcs
      exact ⟨zs, .inr ⟨_, rfl, hl, hm, by simpa using hz, hcell, hwz⟩⟩
  obtain ⟨zs2, w2⟩ := w2
  obtain ⟨l2, rfl, hr2, hm2, hw2, hc2⟩ := YtlfmgidpdmmpkaaGreatDoorW.PrintWords.ReadsInt.ofRowC w2
  have hlen := vars_len hV
  have hgs : ∃ g0 g1 g2 g3 g4 g5 g6, gs = [g0, g1, g2, g3, g4, g5, g6] := by
    match gs, hlen with
    | [g0, g1, g2, g3, g4, g5, g6], _ => exact ⟨_, _, _, _, _, _, _, rfl⟩
  obtain ⟨g0, g1, g2, g3, g4, g5, g6, rfl⟩ := hgs
  refine (fnTextJoined_any W s0 s1 a2 cap2 l2 z0 z1 hm2 hr2 hc2 hw2 te ve hE hT).mono fun e W' ⟨he, hb⟩ => ?_
  subst he
  exact ⟨_, rfl, _, _, _, [], _, q, hW', trodAll_mk1 (shut_bool Tryz.underlying4 _), trodAll_mk3 (shut_string Tryz.underlying9 z0) (shut_string Tryz.underlying9 z1) (Below.trod laidOut (by kernel_rfl) (of_decide_eq_true (by kernel_rfl)) k2 hb lt2), hb.trodVars laidOut (by kernel_rfl) hV, hb.frame _, fun h => by cases h⟩
theorem said : Rows.FnTextJoinedSaid :=
  OpenClaim.holds_of_wide 3 Tryz.f3 rfl rfl rfl rfl rfl rfl rfl ⟨rfl, rfl, rfl, rfl, rfl⟩ rfl rfl rfl rfl rfl (by kernel_rfl) Tryz.func3 closed
    (of_decide_eq_true (by kernel_rfl)) (by unfold Func.isWrapper; first | (rw [if_pos (by decide +kernel)]; kernel_rfl) | (rw [if_neg (by decide +kernel)]; exact ⟨rfl, rfl⟩))
    (fun os started H enc _ => lifted os started H enc)
theorem plain (f : FuncId) (fn : Func) (hf : Tryz.pinned.checked.prog.funcNamed "loop.example/pub-g03250/laws.FnTextJoined" = some f) (hfn : Tryz.pinned.checked.prog.funcs[f]? = some fn) :
    true = Tryz.pinned.checked.prog.looks [] ∧ ∀ (j : Nat) t, fn.params[j]? = some t → Tryz.pinned.checked.prog.wantsStandIn t = false := by
  obtain rfl : f = 3 := Option.some.inj ((show Tryz.prog.funcNamed "loop.example/pub-g03250/laws.FnTextJoined" = some 3 by kernel_rfl).symm.trans hf) |>.symm
  obtain rfl : fn = Tryz.f3 := (Option.some.inj (Tryz.func3.symm.trans hfn)).symm
  refine ⟨by kernel_rfl, fun j t ht => ?_⟩
  rw [Tryz.params3] at ht
  have hm : t ∈ [9, 9, 22] := by simpa using Array.mem_of_getElem? ht
  have hall : ([9, 9, 22].all fun u => !Tryz.prog.wantsStandIn u) = true := by kernel_rfl
  exact (show Tryz.prog.wantsStandIn t = false by simpa using List.all_eq_true.1 hall t hm)
/-- THE CARD. -/
theorem card : Rows.FnTextJoinedCardSaid :=
  Claim7.holds_tied_plain_at .later [] _ _ _ _ said (fun _ h => by cases h) w1 (fun _ h => by cases h) fnTextJoined_row_tie rfl ⟨rfl, rfl⟩ w2 rfl plain w3
end Go.Proofs.YtlfmgidpdmmpkaaGreatDoor.fnTextJoined

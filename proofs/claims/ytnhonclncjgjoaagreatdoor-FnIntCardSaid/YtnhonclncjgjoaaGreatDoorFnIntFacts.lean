/- Closed facts of the row of FnInt, each by itself. -/
import Derived.Test.YtnhonclncjgjoaaGreatDoorRows
import Derived.JoinedOf
import Derived.KernelRfl
namespace Go.Proofs.YtnhonclncjgjoaaGreatDoor.fnInt
open Go
noncomputable abbrev fP : Program := Tryz.pinned.checked.prog
noncomputable abbrev fF : Func := Tryz.f3
noncomputable abbrev fS : ChangeSpec := Rows.fnIntSpec
noncomputable abbrev fC : OpenClaim := Rows.fnIntRow
theorem k0 : (fC.wf (OpenSpec.ofChange fS)) = true := by kernel_rfl
theorem k1 : (laidOutB fP) = true := by kernel_rfl
theorem k2 : (mapsRowed fP) = true := by kernel_rfl
theorem k3 : (fF.params.all (fP.readableRec ·)) = true := by kernel_rfl
theorem k4 : (namedTie fP fC.named fS.vars) = true := by kernel_rfl
theorem k5 : ((fC.stops == [])) = true := by kernel_rfl
theorem k6 : ((fP.stops == [])) = true := by kernel_rfl
theorem k7 : ((fC.knobs == [])) = true := by kernel_rfl
theorem k8 : ((fP.stopKnobs == [])) = true := by kernel_rfl
theorem k9 : ((fC.inPlace == fP.inPlace 3)) = true := by kernel_rfl
theorem k10 : ((fC.unfollowed == fP.unfollowed 3)) = true := by kernel_rfl
theorem k11 : ((fC.recurses == fP.recurses 3)) = true := by kernel_rfl
theorem k12 : ((fC.named == fP.varsNamed 3)) = true := by kernel_rfl
theorem k13 : ((fC.maps == (fF.params.toList ++ fS.plain.varTypes fP).any (fP.mapsRec ·))) = true := by kernel_rfl
theorem k14 : ((fC.ifaces == (fF.params.toList ++ fS.plain.varTypes fP).any (fP.ifacesRec ·))) = true := by kernel_rfl
theorem k15 : ((fC.mapsOut == fP.mapsAmong fF.resultTypes.toList)) = true := by kernel_rfl
theorem k16 : ((fC.loops == (fF.params.toList ++ fS.plain.varTypes fP).any (fP.loopsFrom ·))) = true := by kernel_rfl
theorem k17 : ((fC.wideKeys == (fF.params.toList ++ fS.plain.varTypes fP ++ fF.resultTypes.toList).any (fP.wideKeysFrom ·))) = true := by kernel_rfl
theorem k18 : (fS.vars.all (fP.varReadable ·)) = true := by kernel_rfl
theorem k19 : (fF.resultTypes.all (fun t => fP.readableRec t && decide (t < fP.types.size))) = true := by kernel_rfl
theorem k20 : ((fC.ifacesOut == fF.resultTypes.toList.any (fP.ifacesRec ·))) = true := by kernel_rfl
theorem k21 : ((fC.loopsOut == fF.resultTypes.toList.any (fP.loopsFrom ·))) = true := by kernel_rfl
theorem k22 : ((fC.plainKeys == fP.plainKeys)) = true := by kernel_rfl
theorem k23 : (fC.shortTexts.isNone) = true := by kernel_rfl
theorem k24 : (fP.stopsHeard) = true := by kernel_rfl
theorem k25 : (fP.mayEnter) = true := by kernel_rfl
theorem k26 : ((fC.lifted == fP.liftsFinal)) = true := by kernel_rfl
theorem k27 : ((fP.make == some fC.make)) = true := by kernel_rfl
theorem k28 : ((fC.kinds == (if fC.domain.isEmpty then [] else fF.params.toList.map fun t => match fP.underlying t with | some (.int k) => some k | _ => none))) = true := by kernel_rfl
theorem k29 : ((fC.pinned == fC.pinnedBy)) = true := by kernel_rfl
theorem k30 : ((fC.veiled == (fF.params.toList ++ fS.plain.varTypes fP ++ fF.resultTypes.toList).any (fP.veiledRec ·))) = true := by kernel_rfl
theorem k31 : (fC.veiledFits fP fF.params.toList (fF.params.toList ++ fS.plain.varTypes fP ++ fF.resultTypes.toList)) = true := by kernel_rfl
theorem band {a b : Bool} (h : a = true) (k : b = true) : (a && b) = true := by rw [h, k]; rfl
set_option maxRecDepth 100000 in
theorem closed : joinedFacts fP 3 fF fS fC = true := (band (band (band (band (band (band (band (band (band (band (band (band (band (band (band (band (band (band (band (band (band (band (band (band (band (band (band (band (band (band (band k0 k1) k2) k3) k4) k5) k6) k7) k8) k9) k10) k11) k12) k13) k14) k15) k16) k17) k18) k19) k20) k21) k22) k23) k24) k25) k26) k27) k28) k29) k30) k31)
end Go.Proofs.YtnhonclncjgjoaaGreatDoor.fnInt

/- The closed facts of the row of FnPatchDiffs, one by one. -/
import Derived.Test.YtjebgfpcmooniaaGreatDoorRows
import Derived.JoinedOf
namespace Go.Proofs.YtjebgfpcmooniaaGreatDoor.fnPatchDiffs
open Go
set_option maxRecDepth 100000
theorem k0 : (Rows.fnPatchDiffsRow.wf (OpenSpec.ofChange Rows.fnPatchDiffsSpec)) = true := by kernel_rfl
theorem k1 : (laidOutB Tryz.prog) = true := by kernel_rfl
theorem k2 : (mapsRowed Tryz.prog) = true := by kernel_rfl
theorem k3 : (Tryz.f4.params.all (Tryz.prog.readableRec ·)) = true := by kernel_rfl
theorem k4 : (namedTie Tryz.prog Rows.fnPatchDiffsRow.named Rows.fnPatchDiffsSpec.vars) = true := by kernel_rfl
theorem k5 : ((Rows.fnPatchDiffsRow.stops == [])) = true := by kernel_rfl
theorem k6 : ((Tryz.prog.stops == [])) = true := by kernel_rfl
theorem k7 : ((Rows.fnPatchDiffsRow.knobs == [])) = true := by kernel_rfl
theorem k8 : ((Tryz.prog.stopKnobs == [])) = true := by kernel_rfl
theorem k9 : ((Rows.fnPatchDiffsRow.inPlace == Tryz.prog.inPlace 4)) = true := by kernel_rfl
theorem k10 : ((Rows.fnPatchDiffsRow.unfollowed == Tryz.prog.unfollowed 4)) = true := by kernel_rfl
theorem k11 : ((Rows.fnPatchDiffsRow.recurses == Tryz.prog.recurses 4)) = true := by kernel_rfl
theorem k12 : ((Rows.fnPatchDiffsRow.named == Tryz.prog.varsNamed 4)) = true := by kernel_rfl
theorem k13 : ((Rows.fnPatchDiffsRow.maps == (Tryz.f4.params.toList ++ Rows.fnPatchDiffsSpec.plain.varTypes Tryz.prog).any (Tryz.prog.mapsRec ·))) = true := by kernel_rfl
theorem k14 : ((Rows.fnPatchDiffsRow.ifaces == (Tryz.f4.params.toList ++ Rows.fnPatchDiffsSpec.plain.varTypes Tryz.prog).any (Tryz.prog.ifacesRec ·))) = true := by kernel_rfl
theorem k15 : ((Rows.fnPatchDiffsRow.mapsOut == Tryz.prog.mapsAmong Tryz.f4.resultTypes.toList)) = true := by kernel_rfl
theorem k16 : ((Rows.fnPatchDiffsRow.loops == (Tryz.f4.params.toList ++ Rows.fnPatchDiffsSpec.plain.varTypes Tryz.prog).any (Tryz.prog.loopsFrom ·))) = true := by kernel_rfl
theorem k17 : ((Rows.fnPatchDiffsRow.wideKeys == (Tryz.f4.params.toList ++ Rows.fnPatchDiffsSpec.plain.varTypes Tryz.prog ++ Tryz.f4.resultTypes.toList).any (Tryz.prog.wideKeysFrom ·))) = true := by kernel_rfl
theorem k18 : (Rows.fnPatchDiffsSpec.vars.all (Tryz.prog.varReadable ·)) = true := by kernel_rfl
theorem k19 : (Tryz.f4.resultTypes.all (fun t => Tryz.prog.readableRec t && decide (t < Tryz.prog.types.size))) = true := by kernel_rfl
theorem k20 : ((Rows.fnPatchDiffsRow.ifacesOut == Tryz.f4.resultTypes.toList.any (Tryz.prog.ifacesRec ·))) = true := by kernel_rfl
theorem k21 : ((Rows.fnPatchDiffsRow.loopsOut == Tryz.f4.resultTypes.toList.any (Tryz.prog.loopsFrom ·))) = true := by kernel_rfl
theorem k22 : ((Rows.fnPatchDiffsRow.plainKeys == Tryz.prog.plainKeys)) = true := by kernel_rfl
theorem k23 : (Rows.fnPatchDiffsRow.shortTexts.isNone) = true := by kernel_rfl
theorem k24 : (Tryz.prog.stopsHeard) = true := by kernel_rfl
theorem k25 : (Tryz.prog.mayEnter) = true := by kernel_rfl
theorem k26 : ((Rows.fnPatchDiffsRow.lifted == Tryz.prog.liftsFinal)) = true := by kernel_rfl
theorem k27 : ((Tryz.prog.make == some Rows.fnPatchDiffsRow.make)) = true := by kernel_rfl
theorem k28 : ((Rows.fnPatchDiffsRow.kinds == (if Rows.fnPatchDiffsRow.domain.isEmpty then [] else Tryz.f4.params.toList.map fun t => match Tryz.prog.underlying t with | some (.int k) => some k | _ => none))) = true := by kernel_rfl
theorem k29 : ((Rows.fnPatchDiffsRow.pinned == Rows.fnPatchDiffsRow.pinnedBy)) = true := by kernel_rfl
theorem k30 : ((Rows.fnPatchDiffsRow.veiled == (Tryz.f4.params.toList ++ Rows.fnPatchDiffsSpec.plain.varTypes Tryz.prog ++ Tryz.f4.resultTypes.toList).any (Tryz.prog.veiledRec ·))) = true := by kernel_rfl
theorem k31 : (Rows.fnPatchDiffsRow.veiledFits Tryz.prog Tryz.f4.params.toList (Tryz.f4.params.toList ++ Rows.fnPatchDiffsSpec.plain.varTypes Tryz.prog ++ Tryz.f4.resultTypes.toList)) = true := by kernel_rfl
theorem closed : joinedFacts Tryz.prog 4 Tryz.f4 Rows.fnPatchDiffsSpec Rows.fnPatchDiffsRow = true := by
  unfold joinedFacts
  simp only [k0, k1, k2, k3, k4, k5, k6, k7, k8, k9, k10, k11, k12, k13, k14, k15, k16, k17, k18, k19, k20, k21, k22, k23, k24, k25, k26, k27, k29, k30, k31, Bool.and_true, Bool.true_and]
  exact k28
end Go.Proofs.YtjebgfpcmooniaaGreatDoor.fnPatchDiffs

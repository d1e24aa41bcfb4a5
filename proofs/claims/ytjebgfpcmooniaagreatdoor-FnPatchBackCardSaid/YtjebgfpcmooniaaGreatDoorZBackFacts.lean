/- The closed facts of the row of FnPatchBack, one by one. -/
import Derived.Test.YtjebgfpcmooniaaGreatDoorRows
import Derived.JoinedOf
namespace Go.Proofs.YtjebgfpcmooniaaGreatDoor.fnPatchBack
open Go
set_option maxRecDepth 100000
theorem k0 : (Rows.fnPatchBackRow.wf (OpenSpec.ofChange Rows.fnPatchBackSpec)) = true := by kernel_rfl
theorem k1 : (laidOutB Tryz.prog) = true := by kernel_rfl
theorem k2 : (mapsRowed Tryz.prog) = true := by kernel_rfl
theorem k3 : (Tryz.f12.params.all (Tryz.prog.readableRec ·)) = true := by kernel_rfl
theorem k4 : (namedTie Tryz.prog Rows.fnPatchBackRow.named Rows.fnPatchBackSpec.vars) = true := by kernel_rfl
theorem k5 : ((Rows.fnPatchBackRow.stops == [])) = true := by kernel_rfl
theorem k6 : ((Tryz.prog.stops == [])) = true := by kernel_rfl
theorem k7 : ((Rows.fnPatchBackRow.knobs == [])) = true := by kernel_rfl
theorem k8 : ((Tryz.prog.stopKnobs == [])) = true := by kernel_rfl
theorem k9 : ((Rows.fnPatchBackRow.inPlace == Tryz.prog.inPlace 12)) = true := by kernel_rfl
theorem k10 : ((Rows.fnPatchBackRow.unfollowed == Tryz.prog.unfollowed 12)) = true := by kernel_rfl
theorem k11 : ((Rows.fnPatchBackRow.recurses == Tryz.prog.recurses 12)) = true := by kernel_rfl
theorem k12 : ((Rows.fnPatchBackRow.named == Tryz.prog.varsNamed 12)) = true := by kernel_rfl
theorem k13 : ((Rows.fnPatchBackRow.maps == (Tryz.f12.params.toList ++ Rows.fnPatchBackSpec.plain.varTypes Tryz.prog).any (Tryz.prog.mapsRec ·))) = true := by kernel_rfl
theorem k14 : ((Rows.fnPatchBackRow.ifaces == (Tryz.f12.params.toList ++ Rows.fnPatchBackSpec.plain.varTypes Tryz.prog).any (Tryz.prog.ifacesRec ·))) = true := by kernel_rfl
theorem k15 : ((Rows.fnPatchBackRow.mapsOut == Tryz.prog.mapsAmong Tryz.f12.resultTypes.toList)) = true := by kernel_rfl
theorem k16 : ((Rows.fnPatchBackRow.loops == (Tryz.f12.params.toList ++ Rows.fnPatchBackSpec.plain.varTypes Tryz.prog).any (Tryz.prog.loopsFrom ·))) = true := by kernel_rfl
theorem k17 : ((Rows.fnPatchBackRow.wideKeys == (Tryz.f12.params.toList ++ Rows.fnPatchBackSpec.plain.varTypes Tryz.prog ++ Tryz.f12.resultTypes.toList).any (Tryz.prog.wideKeysFrom ·))) = true := by kernel_rfl
theorem k18 : (Rows.fnPatchBackSpec.vars.all (Tryz.prog.varReadable ·)) = true := by kernel_rfl
theorem k19 : (Tryz.f12.resultTypes.all (fun t => Tryz.prog.readableRec t && decide (t < Tryz.prog.types.size))) = true := by kernel_rfl
theorem k20 : ((Rows.fnPatchBackRow.ifacesOut == Tryz.f12.resultTypes.toList.any (Tryz.prog.ifacesRec ·))) = true := by kernel_rfl
theorem k21 : ((Rows.fnPatchBackRow.loopsOut == Tryz.f12.resultTypes.toList.any (Tryz.prog.loopsFrom ·))) = true := by kernel_rfl
theorem k22 : ((Rows.fnPatchBackRow.plainKeys == Tryz.prog.plainKeys)) = true := by kernel_rfl
theorem k23 : (Rows.fnPatchBackRow.shortTexts.isNone) = true := by kernel_rfl
theorem k24 : (Tryz.prog.stopsHeard) = true := by kernel_rfl
theorem k25 : (Tryz.prog.mayEnter) = true := by kernel_rfl
theorem k26 : ((Rows.fnPatchBackRow.lifted == Tryz.prog.liftsFinal)) = true := by kernel_rfl
theorem k27 : ((Tryz.prog.make == some Rows.fnPatchBackRow.make)) = true := by kernel_rfl
theorem k28 : ((Rows.fnPatchBackRow.kinds == (if Rows.fnPatchBackRow.domain.isEmpty then [] else Tryz.f12.params.toList.map fun t => match Tryz.prog.underlying t with | some (.int k) => some k | _ => none))) = true := by kernel_rfl
theorem k29 : ((Rows.fnPatchBackRow.pinned == Rows.fnPatchBackRow.pinnedBy)) = true := by kernel_rfl
theorem k30 : ((Rows.fnPatchBackRow.veiled == (Tryz.f12.params.toList ++ Rows.fnPatchBackSpec.plain.varTypes Tryz.prog ++ Tryz.f12.resultTypes.toList).any (Tryz.prog.veiledRec ·))) = true := by kernel_rfl
theorem k31 : (Rows.fnPatchBackRow.veiledFits Tryz.prog Tryz.f12.params.toList (Tryz.f12.params.toList ++ Rows.fnPatchBackSpec.plain.varTypes Tryz.prog ++ Tryz.f12.resultTypes.toList)) = true := by kernel_rfl
theorem closed : joinedFacts Tryz.prog 12 Tryz.f12 Rows.fnPatchBackSpec Rows.fnPatchBackRow = true := by
  unfold joinedFacts
  simp only [k0, k1, k2, k3, k4, k5, k6, k7, k8, k9, k10, k11, k12, k13, k14, k15, k16, k17, k18, k19, k20, k21, k22, k23, k24, k25, k26, k27, k29, k30, k31, Bool.and_true, Bool.true_and]
  exact k28
end Go.Proofs.YtjebgfpcmooniaaGreatDoor.fnPatchBack

/- The closed facts of the card of FnPatchDiffs. -/
import Derived.Test.YtjebgfpcmooniaaGreatDoorCards
import Derived.SevenTiedAt
namespace Go.Proofs.YtjebgfpcmooniaaGreatDoor.fnPatchDiffs
open Go
set_option maxRecDepth 100000
theorem cw : Rows.fnPatchDiffsRow.wfByText (OpenSpec.ofChange Rows.fnPatchDiffsSpec) = true := by kernel_rfl
theorem cm : Tryz.pinned.checked.prog.mainIs = some (true, "092798e59d10b039e97699199ff8038aefa6df7a5368ded09b3b8c92cba03c26".toList) := by kernel_rfl
theorem cl : true = Tryz.pinned.checked.prog.looks [] := by kernel_rfl
theorem cg : false = Rows.fnPatchDiffsRow.goesBy Tryz.pinned.checked.prog := by kernel_rfl
theorem cs24 : Tryz.pinned.checked.prog.wantsStandIn 24 = false := by kernel_rfl
theorem cs25 : Tryz.pinned.checked.prog.wantsStandIn 25 = false := by kernel_rfl
theorem cf : Tryz.pinned.checked.prog.funcNamed Rows.fnPatchDiffsRow.func = some 4 := by kernel_rfl
end Go.Proofs.YtjebgfpcmooniaaGreatDoor.fnPatchDiffs

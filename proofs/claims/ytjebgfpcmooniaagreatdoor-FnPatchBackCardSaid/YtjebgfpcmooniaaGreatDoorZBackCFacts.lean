/- The closed facts of the card of FnPatchBack. -/
import Derived.Test.YtjebgfpcmooniaaGreatDoorCards
import Derived.SevenTiedAt
namespace Go.Proofs.YtjebgfpcmooniaaGreatDoor.fnPatchBack
open Go
set_option maxRecDepth 100000
theorem cw : Rows.fnPatchBackRow.wfByText (OpenSpec.ofChange Rows.fnPatchBackSpec) = true := by kernel_rfl
theorem cm : Tryz.pinned.checked.prog.mainIs = some (true, "092798e59d10b039e97699199ff8038aefa6df7a5368ded09b3b8c92cba03c26".toList) := by kernel_rfl
theorem cl : true = Tryz.pinned.checked.prog.looks [] := by kernel_rfl
theorem cg : false = Rows.fnPatchBackRow.goesBy Tryz.pinned.checked.prog := by kernel_rfl
theorem cs24 : Tryz.pinned.checked.prog.wantsStandIn 24 = false := by kernel_rfl
theorem cs25 : Tryz.pinned.checked.prog.wantsStandIn 25 = false := by kernel_rfl
theorem cf : Tryz.pinned.checked.prog.funcNamed Rows.fnPatchBackRow.func = some 12 := by kernel_rfl
end Go.Proofs.YtjebgfpcmooniaaGreatDoor.fnPatchBack

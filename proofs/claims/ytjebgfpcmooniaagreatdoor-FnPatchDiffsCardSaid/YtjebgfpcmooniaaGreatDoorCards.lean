/-
  DERIVED. GIVEN WITH THE SEED: THE CARDS: each row of YtjebgfpcmooniaaGreatDoorRows.lean that lists a variable, with what it lists TIED to the program's text (the seventh form; the later family's looks); each row that meets fmt, with fmt's text TOLD by the authors' own Lean function (tested against real Go, not proved from fmt's source: count such statements apart). THE CARD IS WHAT COUNTS. Prove the row's statement (the work); the ties are given (YtjebgfpcmooniaaGreatDoorTie.lean); close each card by the builder's one call (the guide's Derived/Test/ToyasCard.lean, 'card_holds'). Laid BY PROGRAM, IN A SANDBOX (cutbox-door.mjs). By AI agents, Wed Nov 11 2026. No macro, syntax, notation, axiom, sorry.
-/
import Derived.Test.YtjebgfpcmooniaaGreatDoorRows
import GoSem.ClaimSeven
namespace Go.Proofs.YtjebgfpcmooniaaGreatDoor
namespace Rows

/-- THE TIED CARD OF 'laws.FnPatchText'. -/
def fnPatchTextCard : Claim7 := { stood := { row := fnPatchTextRow, standIns := [], harness := (true, "092798e59d10b039e97699199ff8038aefa6df7a5368ded09b3b8c92cba03c26"), looks := true }, kinds := [], alts := [], laidByText := true, laidKinds := [.data, .data, .data, .data, .sentinel, .data, .pinned], laidTests := true, laidLooks := .later }
def FnPatchTextCardSaid : Prop := Claim7.holds Tryz.pinned (.plain (OpenSpec.ofChange fnPatchTextSpec)) fnPatchTextCard

/-- THE TIED CARD OF 'laws.FnPatchDiffs'. -/
def fnPatchDiffsCard : Claim7 := { stood := { row := fnPatchDiffsRow, standIns := [], harness := (true, "092798e59d10b039e97699199ff8038aefa6df7a5368ded09b3b8c92cba03c26"), looks := true }, kinds := [], alts := [], laidByText := true, laidKinds := [.data, .sentinel, .pinned], laidTests := true, laidLooks := .later }
def FnPatchDiffsCardSaid : Prop := Claim7.holds Tryz.pinned (.plain (OpenSpec.ofChange fnPatchDiffsSpec)) fnPatchDiffsCard

/-- THE TIED CARD OF 'laws.FnPatchRoad'. -/
def fnPatchRoadCard : Claim7 := { stood := { row := fnPatchRoadRow, standIns := [], harness := (true, "092798e59d10b039e97699199ff8038aefa6df7a5368ded09b3b8c92cba03c26"), looks := true }, kinds := [], alts := [], laidByText := true, laidKinds := [.data, .sentinel, .pinned], laidTests := true, laidLooks := .later }
def FnPatchRoadCardSaid : Prop := Claim7.holds Tryz.pinned (.plain (OpenSpec.ofChange fnPatchRoadSpec)) fnPatchRoadCard

/-- THE TIED CARD OF 'laws.FnPatchWide'. -/
def fnPatchWideCard : Claim7 := { stood := { row := fnPatchWideRow, standIns := [], harness := (true, "092798e59d10b039e97699199ff8038aefa6df7a5368ded09b3b8c92cba03c26"), looks := true }, kinds := [], alts := [], laidByText := true, laidKinds := [.data, .sentinel, .pinned], laidTests := true, laidLooks := .later }
def FnPatchWideCardSaid : Prop := Claim7.holds Tryz.pinned (.plain (OpenSpec.ofChange fnPatchWideSpec)) fnPatchWideCard

/-- THE TIED CARD OF 'laws.FnDeltaRoad'. -/
def fnDeltaRoadCard : Claim7 := { stood := { row := fnDeltaRoadRow, standIns := [], harness := (true, "092798e59d10b039e97699199ff8038aefa6df7a5368ded09b3b8c92cba03c26"), looks := true }, kinds := [], alts := [], laidByText := true, laidKinds := [.data, .data, .data, .data, .sentinel, .sentinel, .sentinel, .data, .pinned], laidTests := true, laidLooks := .later }
def FnDeltaRoadCardSaid : Prop := Claim7.holds Tryz.pinned (.plain (OpenSpec.ofChange fnDeltaRoadSpec)) fnDeltaRoadCard

/-- THE TIED CARD OF 'laws.FnApplyExact'. -/
def fnApplyExactCard : Claim7 := { stood := { row := fnApplyExactRow, standIns := [], harness := (true, "092798e59d10b039e97699199ff8038aefa6df7a5368ded09b3b8c92cba03c26"), looks := true }, kinds := [], alts := [], laidByText := true, laidKinds := [.data, .sentinel, .pinned], laidTests := true, laidLooks := .later }
def FnApplyExactCardSaid : Prop := Claim7.holds Tryz.pinned (.plain (OpenSpec.ofChange fnApplyExactSpec)) fnApplyExactCard

/-- THE TIED CARD OF 'laws.FnApplySteps'. -/
def fnApplyStepsCard : Claim7 := { stood := { row := fnApplyStepsRow, standIns := [], harness := (true, "092798e59d10b039e97699199ff8038aefa6df7a5368ded09b3b8c92cba03c26"), looks := true }, kinds := [], alts := [], laidByText := true, laidKinds := [.data, .sentinel, .pinned], laidTests := true, laidLooks := .later }
def FnApplyStepsCardSaid : Prop := Claim7.holds Tryz.pinned (.plain (OpenSpec.ofChange fnApplyStepsSpec)) fnApplyStepsCard

/-- THE TIED CARD OF 'laws.FnPatchInner'. -/
def fnPatchInnerCard : Claim7 := { stood := { row := fnPatchInnerRow, standIns := [], harness := (true, "092798e59d10b039e97699199ff8038aefa6df7a5368ded09b3b8c92cba03c26"), looks := true }, kinds := [], alts := [], laidByText := true, laidKinds := [.data, .sentinel, .pinned], laidTests := true, laidLooks := .later }
def FnPatchInnerCardSaid : Prop := Claim7.holds Tryz.pinned (.plain (OpenSpec.ofChange fnPatchInnerSpec)) fnPatchInnerCard

/-- THE TIED CARD OF 'laws.FnApplyOne'. -/
def fnApplyOneCard : Claim7 := { stood := { row := fnApplyOneRow, standIns := [], harness := (true, "092798e59d10b039e97699199ff8038aefa6df7a5368ded09b3b8c92cba03c26"), looks := true }, kinds := [], alts := [], laidByText := true, laidKinds := [.data, .sentinel, .pinned], laidTests := true, laidLooks := .later }
def FnApplyOneCardSaid : Prop := Claim7.holds Tryz.pinned (.plain (OpenSpec.ofChange fnApplyOneSpec)) fnApplyOneCard

/-- THE TIED CARD OF 'laws.FnPatchBack'. -/
def fnPatchBackCard : Claim7 := { stood := { row := fnPatchBackRow, standIns := [], harness := (true, "092798e59d10b039e97699199ff8038aefa6df7a5368ded09b3b8c92cba03c26"), looks := true }, kinds := [], alts := [], laidByText := true, laidKinds := [.data, .data, .data, .data, .sentinel, .sentinel, .sentinel, .data, .pinned], laidTests := true, laidLooks := .later }
def FnPatchBackCardSaid : Prop := Claim7.holds Tryz.pinned (.plain (OpenSpec.ofChange fnPatchBackSpec)) fnPatchBackCard

/-- THE TIED CARD OF 'laws.FnPatchWords'. -/
def fnPatchWordsCard : Claim7 := { stood := { row := fnPatchWordsRow, standIns := [], harness := (true, "092798e59d10b039e97699199ff8038aefa6df7a5368ded09b3b8c92cba03c26"), looks := true }, kinds := [], alts := [], laidByText := true, laidKinds := [.data, .data, .data, .data, .sentinel, .sentinel, .sentinel, .data, .pinned], laidTests := true, laidLooks := .later }
def FnPatchWordsCardSaid : Prop := Claim7.holds Tryz.pinned (.plain (OpenSpec.ofChange fnPatchWordsSpec)) fnPatchWordsCard

/-- THE SECOND FORM's CARD OF 'laws.FnPatchText'. -/
def fnPatchTextUptoCard : Claim7 := { stood := { row := fnPatchTextUptoRow, standIns := [], harness := (true, "092798e59d10b039e97699199ff8038aefa6df7a5368ded09b3b8c92cba03c26"), looks := true }, kinds := [], alts := [], laidByText := true, laidKinds := [.data, .data, .data, .data, .sentinel, .data, .pinned], laidTests := true, laidLooks := .later }
def FnPatchTextUptoCardSaid : Prop := Claim7.holds Tryz.pinned (.plain (OpenSpec.upto fnPatchTextSpec)) fnPatchTextUptoCard

/-- THE SECOND FORM's CARD OF 'laws.FnPatchDiffs'. -/
def fnPatchDiffsUptoCard : Claim7 := { stood := { row := fnPatchDiffsUptoRow, standIns := [], harness := (true, "092798e59d10b039e97699199ff8038aefa6df7a5368ded09b3b8c92cba03c26"), looks := true }, kinds := [], alts := [], laidByText := true, laidKinds := [.data, .sentinel, .pinned], laidTests := true, laidLooks := .later }
def FnPatchDiffsUptoCardSaid : Prop := Claim7.holds Tryz.pinned (.plain (OpenSpec.upto fnPatchDiffsSpec)) fnPatchDiffsUptoCard

/-- THE SECOND FORM's CARD OF 'laws.FnPatchRoad'. -/
def fnPatchRoadUptoCard : Claim7 := { stood := { row := fnPatchRoadUptoRow, standIns := [], harness := (true, "092798e59d10b039e97699199ff8038aefa6df7a5368ded09b3b8c92cba03c26"), looks := true }, kinds := [], alts := [], laidByText := true, laidKinds := [.data, .sentinel, .pinned], laidTests := true, laidLooks := .later }
def FnPatchRoadUptoCardSaid : Prop := Claim7.holds Tryz.pinned (.plain (OpenSpec.upto fnPatchRoadSpec)) fnPatchRoadUptoCard

/-- THE SECOND FORM's CARD OF 'laws.FnPatchWide'. -/
def fnPatchWideUptoCard : Claim7 := { stood := { row := fnPatchWideUptoRow, standIns := [], harness := (true, "092798e59d10b039e97699199ff8038aefa6df7a5368ded09b3b8c92cba03c26"), looks := true }, kinds := [], alts := [], laidByText := true, laidKinds := [.data, .sentinel, .pinned], laidTests := true, laidLooks := .later }
def FnPatchWideUptoCardSaid : Prop := Claim7.holds Tryz.pinned (.plain (OpenSpec.upto fnPatchWideSpec)) fnPatchWideUptoCard

/-- THE SECOND FORM's CARD OF 'laws.FnDeltaRoad'. -/
def fnDeltaRoadUptoCard : Claim7 := { stood := { row := fnDeltaRoadUptoRow, standIns := [], harness := (true, "092798e59d10b039e97699199ff8038aefa6df7a5368ded09b3b8c92cba03c26"), looks := true }, kinds := [], alts := [], laidByText := true, laidKinds := [.data, .data, .data, .data, .sentinel, .sentinel, .sentinel, .data, .pinned], laidTests := true, laidLooks := .later }
def FnDeltaRoadUptoCardSaid : Prop := Claim7.holds Tryz.pinned (.plain (OpenSpec.upto fnDeltaRoadSpec)) fnDeltaRoadUptoCard

/-- THE SECOND FORM's CARD OF 'laws.FnApplyExact'. -/
def fnApplyExactUptoCard : Claim7 := { stood := { row := fnApplyExactUptoRow, standIns := [], harness := (true, "092798e59d10b039e97699199ff8038aefa6df7a5368ded09b3b8c92cba03c26"), looks := true }, kinds := [], alts := [], laidByText := true, laidKinds := [.data, .sentinel, .pinned], laidTests := true, laidLooks := .later }
def FnApplyExactUptoCardSaid : Prop := Claim7.holds Tryz.pinned (.plain (OpenSpec.upto fnApplyExactSpec)) fnApplyExactUptoCard

/-- THE SECOND FORM's CARD OF 'laws.FnApplySteps'. -/
def fnApplyStepsUptoCard : Claim7 := { stood := { row := fnApplyStepsUptoRow, standIns := [], harness := (true, "092798e59d10b039e97699199ff8038aefa6df7a5368ded09b3b8c92cba03c26"), looks := true }, kinds := [], alts := [], laidByText := true, laidKinds := [.data, .sentinel, .pinned], laidTests := true, laidLooks := .later }
def FnApplyStepsUptoCardSaid : Prop := Claim7.holds Tryz.pinned (.plain (OpenSpec.upto fnApplyStepsSpec)) fnApplyStepsUptoCard

/-- THE SECOND FORM's CARD OF 'laws.FnPatchInner'. -/
def fnPatchInnerUptoCard : Claim7 := { stood := { row := fnPatchInnerUptoRow, standIns := [], harness := (true, "092798e59d10b039e97699199ff8038aefa6df7a5368ded09b3b8c92cba03c26"), looks := true }, kinds := [], alts := [], laidByText := true, laidKinds := [.data, .sentinel, .pinned], laidTests := true, laidLooks := .later }
def FnPatchInnerUptoCardSaid : Prop := Claim7.holds Tryz.pinned (.plain (OpenSpec.upto fnPatchInnerSpec)) fnPatchInnerUptoCard

/-- THE SECOND FORM's CARD OF 'laws.FnApplyOne'. -/
def fnApplyOneUptoCard : Claim7 := { stood := { row := fnApplyOneUptoRow, standIns := [], harness := (true, "092798e59d10b039e97699199ff8038aefa6df7a5368ded09b3b8c92cba03c26"), looks := true }, kinds := [], alts := [], laidByText := true, laidKinds := [.data, .sentinel, .pinned], laidTests := true, laidLooks := .later }
def FnApplyOneUptoCardSaid : Prop := Claim7.holds Tryz.pinned (.plain (OpenSpec.upto fnApplyOneSpec)) fnApplyOneUptoCard

/-- THE SECOND FORM's CARD OF 'laws.FnPatchBack'. -/
def fnPatchBackUptoCard : Claim7 := { stood := { row := fnPatchBackUptoRow, standIns := [], harness := (true, "092798e59d10b039e97699199ff8038aefa6df7a5368ded09b3b8c92cba03c26"), looks := true }, kinds := [], alts := [], laidByText := true, laidKinds := [.data, .data, .data, .data, .sentinel, .sentinel, .sentinel, .data, .pinned], laidTests := true, laidLooks := .later }
def FnPatchBackUptoCardSaid : Prop := Claim7.holds Tryz.pinned (.plain (OpenSpec.upto fnPatchBackSpec)) fnPatchBackUptoCard

/-- THE SECOND FORM's CARD OF 'laws.FnPatchWords'. -/
def fnPatchWordsUptoCard : Claim7 := { stood := { row := fnPatchWordsUptoRow, standIns := [], harness := (true, "092798e59d10b039e97699199ff8038aefa6df7a5368ded09b3b8c92cba03c26"), looks := true }, kinds := [], alts := [], laidByText := true, laidKinds := [.data, .data, .data, .data, .sentinel, .sentinel, .sentinel, .data, .pinned], laidTests := true, laidLooks := .later }
def FnPatchWordsUptoCardSaid : Prop := Claim7.holds Tryz.pinned (.plain (OpenSpec.upto fnPatchWordsSpec)) fnPatchWordsUptoCard
end Rows
end Go.Proofs.YtjebgfpcmooniaaGreatDoor

/- FnPatchDiffs: for all settings and every list of differences the law returns true, and its arguments read as they did: the card: its package variables are what the program's text lays. -/
import Derived.Test.YtjebgfpcmooniaaGreatDoorZDiffsRow
import Derived.Test.YtjebgfpcmooniaaGreatDoorZDiffsCFacts
import Derived.Test.YtjebgfpcmooniaaGreatDoorTie
namespace Go.Proofs.YtjebgfpcmooniaaGreatDoor.fnPatchDiffs
open Go
set_option maxRecDepth 100000
theorem plain (f : FuncId) (fn : Func) (hf : Tryz.pinned.checked.prog.funcNamed Rows.fnPatchDiffsRow.func = some f) (hfn : Tryz.pinned.checked.prog.funcs[f]? = some fn) :
    true = Tryz.pinned.checked.prog.looks [] ∧ ∀ (j : Nat) t, fn.params[j]? = some t → Tryz.pinned.checked.prog.wantsStandIn t = false := by
  obtain rfl : 4 = f := Option.some.inj (cf.symm.trans hf)
  obtain rfl : Tryz.f4 = fn := Option.some.inj (Tryz.func4.symm.trans hfn)
  refine ⟨cl, fun j t ht => ?_⟩
  rw [Tryz.params4] at ht
  have hm : t ∈ [24, 25] := by simpa using Array.mem_of_getElem? ht
  simp only [List.mem_cons, List.not_mem_nil, or_false] at hm
  rcases hm with rfl | rfl
  · exact cs24
  · exact cs25
theorem card : Rows.FnPatchDiffsCardSaid :=
  Claim7.holds_tied_plain_at .later [] _ _ _ _ said (fun _ h => by cases h) cw (fun _ h => by cases h) fnPatchDiffs_row_tie rfl ⟨rfl, rfl⟩ cm rfl plain cg
end Go.Proofs.YtjebgfpcmooniaaGreatDoor.fnPatchDiffs

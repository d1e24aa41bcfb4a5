/- FnPatchDiffs: the law returns true at all settings and every list of differences. -/
import Derived.Test.YtjebgfpcmooniaaGreatDoorZApDoor
import Derived.Test.YtjebgfpcmooniaaGreatDoorZPApply
import Derived.Test.YtjebgfpcmooniaaGreatDoorZSplitMax
namespace Go.Proofs.YtjebgfpcmooniaaGreatDoor
open Go Go.RowKit

theorem split_said : SplitSaid := fun _ _ _ _ _ _ _ _ _ _ _ _ _ _ _ _ _ _ _ h => split_max h
theorem diffs_whole (half : Bool) (cost dist : Int) (th de : Nat) (mar bits : Int) (A : Option Addr) (n c : Nat) (l : List D) (w : World) (hr : RdL dI 2 w w.heap.size A n l) (hn : n ≤ 9223372036854775807) :
    Calls Tryz.prog 4 #[.agg #[.bool half, .int .i64 cost, .int .i64 dist, .float .f64 th, .float .f64 de, .int .i64 mar, .int .i64 bits], .slice A n c] w fun e w' => e = .returned (.bool true) ∧ Below w.heap.size w w' :=
  diffs_law (apply_door (papply_any split_said)) half cost dist th de mar bits A n c l w hr hn
end Go.Proofs.YtjebgfpcmooniaaGreatDoor

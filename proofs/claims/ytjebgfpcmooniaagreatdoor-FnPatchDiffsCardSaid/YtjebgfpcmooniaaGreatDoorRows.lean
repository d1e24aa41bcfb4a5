/-
  NARROWER THAN 'FOR EVERY INPUT', by the rows' own cells (each row's printed sentence says how): FnPatchText: laid · FnPatchDiffs: laid · FnPatchRoad: laid · FnPatchWide: laid · FnDeltaRoad: laid · FnApplyExact: laid · FnApplySteps: laid · FnPatchInner: laid · FnApplyOne: laid · FnPatchBack: laid · FnPatchWords: laid.
  DERIVED. THE GIVEN ROWS OF THIS SEAT. 11 by the template 'for every input the law returns true; each argument reads behind the call as it read before'; 0 by the template 'total and deterministic' (their statements: YtjebgfpcmooniaaGreatDoorTotals.lean).
  GIVEN WITH THE SEED: the statements are not yours to turn. If you find one false, say at which input.
  Laid BY PROGRAM, IN A SANDBOX (cutbox-rows.mjs): the forced cells as the released guide's own fill.sh prints them over the translation b304decc09dad308… (all of the seat's roots in one cut). By AI agents, Wed Nov 11 2026. No macro, syntax, notation, axiom, sorry.
-/
import Derived.Test.YtjebgfpcmooniaaGreatDoorChecked
import GoSem.PinnedTables
import GoSem.Claim
import GoSem.ClaimJoined
import GoSem.ClaimMapViews
import Derived.JoinedTies
import Derived.KernelRfl
namespace Go.Proofs.YtjebgfpcmooniaaGreatDoor
/- THE CELL 'sum', in the pinned program and in every row, IS THE sha256 OF THE DUMP (.gsa) THAT YtjebgfpcmooniaaGreatDoorProg.lean LOADS. Nothing in Lean hashes anything: it is a label: what it is worth is what the hold of that sum in a sandbox is worth. -/
noncomputable def Tryz.pinned : Pinned := { name := "ytjebgfpcmooniaagreatdoor", sum := "b304decc09dad30840c595c18a90d1c9e8db1a2f931346c96bf197bbc66b967a", checked := Tryz.checked }
namespace Rows
def none {H : Type} : Left H := { results := [], args := [] }

/- WHAT THE LISTED PACKAGE-LEVEL VARIABLES READ AS WHEN THE CALL BEGINS. Each datum BY PROGRAM (the guide's laid-datum.mjs) off the statement by which the dump's own 'gosem.cut.vars' lays the variable. In a bare row this is a premise. The card (YtjebgfpcmooniaaGreatDoorCards.lean) ties it to the program's text. -/
def laid_math_bits_deBruijn32tab {H : Type} : DataW H := .agg [.lit (.int .u8 0), .lit (.int .u8 1), .lit (.int .u8 28), .lit (.int .u8 2), .lit (.int .u8 29), .lit (.int .u8 14), .lit (.int .u8 24), .lit (.int .u8 3), .lit (.int .u8 30), .lit (.int .u8 22), .lit (.int .u8 20), .lit (.int .u8 15), .lit (.int .u8 25), .lit (.int .u8 17), .lit (.int .u8 4), .lit (.int .u8 8), .lit (.int .u8 31), .lit (.int .u8 27), .lit (.int .u8 13), .lit (.int .u8 23), .lit (.int .u8 21), .lit (.int .u8 19), .lit (.int .u8 16), .lit (.int .u8 7), .lit (.int .u8 26), .lit (.int .u8 12), .lit (.int .u8 18), .lit (.int .u8 6), .lit (.int .u8 11), .lit (.int .u8 5), .lit (.int .u8 10), .lit (.int .u8 9)]
def laid_math_bits_deBruijn64tab {H : Type} : DataW H := .agg [.lit (.int .u8 0), .lit (.int .u8 1), .lit (.int .u8 56), .lit (.int .u8 2), .lit (.int .u8 57), .lit (.int .u8 49), .lit (.int .u8 28), .lit (.int .u8 3), .lit (.int .u8 61), .lit (.int .u8 58), .lit (.int .u8 42), .lit (.int .u8 50), .lit (.int .u8 38), .lit (.int .u8 29), .lit (.int .u8 17), .lit (.int .u8 4), .lit (.int .u8 62), .lit (.int .u8 47), .lit (.int .u8 59), .lit (.int .u8 36), .lit (.int .u8 45), .lit (.int .u8 43), .lit (.int .u8 51), .lit (.int .u8 22), .lit (.int .u8 53), .lit (.int .u8 39), .lit (.int .u8 33), .lit (.int .u8 30), .lit (.int .u8 24), .lit (.int .u8 18), .lit (.int .u8 12), .lit (.int .u8 5), .lit (.int .u8 63), .lit (.int .u8 55), .lit (.int .u8 48), .lit (.int .u8 27), .lit (.int .u8 60), .lit (.int .u8 41), .lit (.int .u8 37), .lit (.int .u8 16), .lit (.int .u8 46), .lit (.int .u8 35), .lit (.int .u8 44), .lit (.int .u8 21), .lit (.int .u8 52), .lit (.int .u8 32), .lit (.int .u8 23), .lit (.int .u8 11), .lit (.int .u8 54), .lit (.int .u8 26), .lit (.int .u8 40), .lit (.int .u8 15), .lit (.int .u8 34), .lit (.int .u8 20), .lit (.int .u8 31), .lit (.int .u8 10), .lit (.int .u8 25), .lit (.int .u8 14), .lit (.int .u8 19), .lit (.int .u8 9), .lit (.int .u8 13), .lit (.int .u8 8), .lit (.int .u8 7), .lit (.int .u8 6)]
def laid_internal_strconv_uint64pow10 {H : Type} : DataW H := .agg [.lit (.int .u64 1), .lit (.int .u64 10), .lit (.int .u64 100), .lit (.int .u64 1000), .lit (.int .u64 10000), .lit (.int .u64 100000), .lit (.int .u64 1000000), .lit (.int .u64 10000000), .lit (.int .u64 100000000), .lit (.int .u64 1000000000), .lit (.int .u64 10000000000), .lit (.int .u64 100000000000), .lit (.int .u64 1000000000000), .lit (.int .u64 10000000000000), .lit (.int .u64 100000000000000), .lit (.int .u64 1000000000000000), .lit (.int .u64 10000000000000000), .lit (.int .u64 100000000000000000), .lit (.int .u64 1000000000000000000), .lit (.int .u64 10000000000000000000)]
def laid_unicode_utf8_acceptRanges {H : Type} : DataW H := .agg [.agg [.lit (.int .u8 128), .lit (.int .u8 191)], .agg [.lit (.int .u8 160), .lit (.int .u8 191)], .agg [.lit (.int .u8 128), .lit (.int .u8 159)], .agg [.lit (.int .u8 144), .lit (.int .u8 191)], .agg [.lit (.int .u8 128), .lit (.int .u8 143)], .agg [.lit (.int .u8 0), .lit (.int .u8 0)], .agg [.lit (.int .u8 0), .lit (.int .u8 0)], .agg [.lit (.int .u8 0), .lit (.int .u8 0)], .agg [.lit (.int .u8 0), .lit (.int .u8 0)], .agg [.lit (.int .u8 0), .lit (.int .u8 0)], .agg [.lit (.int .u8 0), .lit (.int .u8 0)], .agg [.lit (.int .u8 0), .lit (.int .u8 0)], .agg [.lit (.int .u8 0), .lit (.int .u8 0)], .agg [.lit (.int .u8 0), .lit (.int .u8 0)], .agg [.lit (.int .u8 0), .lit (.int .u8 0)], .agg [.lit (.int .u8 0), .lit (.int .u8 0)]]
def laid_bytes_ErrTooLarge {H : Type} : DataW H := .iface "*errors.errorString" (.ptr (.agg [.lit (.string [98, 121, 116, 101, 115, 46, 66, 117, 102, 102, 101, 114, 58, 32, 116, 111, 111, 32, 108, 97, 114, 103, 101])]))
def laid_net_url_table {H : Type} : DataW H := .agg [.lit (.int .u8 0), .lit (.int .u8 0), .lit (.int .u8 0), .lit (.int .u8 0), .lit (.int .u8 0), .lit (.int .u8 0), .lit (.int .u8 0), .lit (.int .u8 0), .lit (.int .u8 0), .lit (.int .u8 0), .lit (.int .u8 0), .lit (.int .u8 0), .lit (.int .u8 0), .lit (.int .u8 0), .lit (.int .u8 0), .lit (.int .u8 0), .lit (.int .u8 0), .lit (.int .u8 0), .lit (.int .u8 0), .lit (.int .u8 0), .lit (.int .u8 0), .lit (.int .u8 0), .lit (.int .u8 0), .lit (.int .u8 0), .lit (.int .u8 0), .lit (.int .u8 0), .lit (.int .u8 0), .lit (.int .u8 0), .lit (.int .u8 0), .lit (.int .u8 0), .lit (.int .u8 0), .lit (.int .u8 0), .lit (.int .u8 0), .lit (.int .u8 76), .lit (.int .u8 12), .lit (.int .u8 0), .lit (.int .u8 95), .lit (.int .u8 0), .lit (.int .u8 95), .lit (.int .u8 12), .lit (.int .u8 76), .lit (.int .u8 76), .lit (.int .u8 76), .lit (.int .u8 95), .lit (.int .u8 93), .lit (.int .u8 127), .lit (.int .u8 127), .lit (.int .u8 65), .lit (.int .u8 255), .lit (.int .u8 255), .lit (.int .u8 255), .lit (.int .u8 255), .lit (.int .u8 255), .lit (.int .u8 255), .lit (.int .u8 255), .lit (.int .u8 255), .lit (.int .u8 255), .lit (.int .u8 255), .lit (.int .u8 79), .lit (.int .u8 93), .lit (.int .u8 12), .lit (.int .u8 95), .lit (.int .u8 12), .lit (.int .u8 64), .lit (.int .u8 67), .lit (.int .u8 255), .lit (.int .u8 255), .lit (.int .u8 255), .lit (.int .u8 255), .lit (.int .u8 255), .lit (.int .u8 255), .lit (.int .u8 127), .lit (.int .u8 127), .lit (.int .u8 127), .lit (.int .u8 127), .lit (.int .u8 127), .lit (.int .u8 127), .lit (.int .u8 127), .lit (.int .u8 127), .lit (.int .u8 127), .lit (.int .u8 127), .lit (.int .u8 127), .lit (.int .u8 127), .lit (.int .u8 127), .lit (.int .u8 127), .lit (.int .u8 127), .lit (.int .u8 127), .lit (.int .u8 127), .lit (.int .u8 127), .lit (.int .u8 127), .lit (.int .u8 127), .lit (.int .u8 12), .lit (.int .u8 0), .lit (.int .u8 12), .lit (.int .u8 0), .lit (.int .u8 127), .lit (.int .u8 0), .lit (.int .u8 255), .lit (.int .u8 255), .lit (.int .u8 255), .lit (.int .u8 255), .lit (.int .u8 255), .lit (.int .u8 255), .lit (.int .u8 127), .lit (.int .u8 127), .lit (.int .u8 127), .lit (.int .u8 127), .lit (.int .u8 127), .lit (.int .u8 127), .lit (.int .u8 127), .lit (.int .u8 127), .lit (.int .u8 127), .lit (.int .u8 127), .lit (.int .u8 127), .lit (.int .u8 127), .lit (.int .u8 127), .lit (.int .u8 127), .lit (.int .u8 127), .lit (.int .u8 127), .lit (.int .u8 127), .lit (.int .u8 127), .lit (.int .u8 127), .lit (.int .u8 127), .lit (.int .u8 0), .lit (.int .u8 0), .lit (.int .u8 0), .lit (.int .u8 127), .lit (.int .u8 0), .lit (.int .u8 0), .lit (.int .u8 0), .lit (.int .u8 0), .lit (.int .u8 0), .lit (.int .u8 0), .lit (.int .u8 0), .lit (.int .u8 0), .lit (.int .u8 0), .lit (.int .u8 0), .lit (.int .u8 0), .lit (.int .u8 0), .lit (.int .u8 0), .lit (.int .u8 0), .lit (.int .u8 0), .lit (.int .u8 0), .lit (.int .u8 0), .lit (.int .u8 0), .lit (.int .u8 0), .lit (.int .u8 0), .lit (.int .u8 0), .lit (.int .u8 0), .lit (.int .u8 0), .lit (.int .u8 0), .lit (.int .u8 0), .lit (.int .u8 0), .lit (.int .u8 0), .lit (.int .u8 0), .lit (.int .u8 0), .lit (.int .u8 0), .lit (.int .u8 0), .lit (.int .u8 0), .lit (.int .u8 0), .lit (.int .u8 0), .lit (.int .u8 0), .lit (.int .u8 0), .lit (.int .u8 0), .lit (.int .u8 0), .lit (.int .u8 0), .lit (.int .u8 0), .lit (.int .u8 0), .lit (.int .u8 0), .lit (.int .u8 0), .lit (.int .u8 0), .lit (.int .u8 0), .lit (.int .u8 0), .lit (.int .u8 0), .lit (.int .u8 0), .lit (.int .u8 0), .lit (.int .u8 0), .lit (.int .u8 0), .lit (.int .u8 0), .lit (.int .u8 0), .lit (.int .u8 0), .lit (.int .u8 0), .lit (.int .u8 0), .lit (.int .u8 0), .lit (.int .u8 0), .lit (.int .u8 0), .lit (.int .u8 0), .lit (.int .u8 0), .lit (.int .u8 0), .lit (.int .u8 0), .lit (.int .u8 0), .lit (.int .u8 0), .lit (.int .u8 0), .lit (.int .u8 0), .lit (.int .u8 0), .lit (.int .u8 0), .lit (.int .u8 0), .lit (.int .u8 0), .lit (.int .u8 0), .lit (.int .u8 0), .lit (.int .u8 0), .lit (.int .u8 0), .lit (.int .u8 0), .lit (.int .u8 0), .lit (.int .u8 0), .lit (.int .u8 0), .lit (.int .u8 0), .lit (.int .u8 0), .lit (.int .u8 0), .lit (.int .u8 0), .lit (.int .u8 0), .lit (.int .u8 0), .lit (.int .u8 0), .lit (.int .u8 0), .lit (.int .u8 0), .lit (.int .u8 0), .lit (.int .u8 0), .lit (.int .u8 0), .lit (.int .u8 0), .lit (.int .u8 0), .lit (.int .u8 0), .lit (.int .u8 0), .lit (.int .u8 0), .lit (.int .u8 0), .lit (.int .u8 0), .lit (.int .u8 0), .lit (.int .u8 0), .lit (.int .u8 0), .lit (.int .u8 0), .lit (.int .u8 0), .lit (.int .u8 0), .lit (.int .u8 0), .lit (.int .u8 0), .lit (.int .u8 0), .lit (.int .u8 0), .lit (.int .u8 0), .lit (.int .u8 0), .lit (.int .u8 0), .lit (.int .u8 0), .lit (.int .u8 0), .lit (.int .u8 0), .lit (.int .u8 0), .lit (.int .u8 0), .lit (.int .u8 0), .lit (.int .u8 0), .lit (.int .u8 0), .lit (.int .u8 0), .lit (.int .u8 0), .lit (.int .u8 0), .lit (.int .u8 0), .lit (.int .u8 0), .lit (.int .u8 0), .lit (.int .u8 0), .lit (.int .u8 0), .lit (.int .u8 0), .lit (.int .u8 0)]
/-- One of Go's own tables, pinned by name: the form's constant. -/
def laid_unicode_utf8_first : DataW Unit := Go.Pinned.utf8First
def laid_strconv_ErrRange {H : Type} : DataW H := .iface "*errors.errorString" (.ptr (.agg [.lit (.string [118, 97, 108, 117, 101, 32, 111, 117, 116, 32, 111, 102, 32, 114, 97, 110, 103, 101])]))
def laid_strconv_ErrSyntax {H : Type} : DataW H := .iface "*errors.errorString" (.ptr (.agg [.lit (.string [105, 110, 118, 97, 108, 105, 100, 32, 115, 121, 110, 116, 97, 120])]))

/-- 'laws.FnPatchText': WHATEVER THE INPUT: true; the input reads as it did. -/
def fnPatchTextSpec : ChangeSpec := { name := "fnPatchText", fn := fun _ => fun
  | [d1, d2] => { results := [.lit (.bool true)], args := [d1, d2] }
  | _ => none }
def fnPatchTextRow : OpenClaim := { program := "ytjebgfpcmooniaagreatdoor", sum := "b304decc09dad30840c595c18a90d1c9e8db1a2f931346c96bf197bbc66b967a", func := "given.example/pub-enjambment/laws.FnPatchText", spec := "fnPatchText", inPlace := ["internal/abi.NoEscape", "internal/bytealg.MakeNoZero", "math.archMax", "math.Float64bits", "math.Float64frombits", "math.archMin"], unfollowed := true, recurses := true, named := ["bytes.ErrTooLarge", "unicode/utf8.first", "unicode/utf8.acceptRanges", "internal/strconv.uint64pow10", "math/bits.deBruijn32tab", "math/bits.deBruijn64tab", "net/url.table"], apart := false, laid := [("math/bits.deBruijn32tab", laid_math_bits_deBruijn32tab), ("math/bits.deBruijn64tab", laid_math_bits_deBruijn64tab), ("internal/strconv.uint64pow10", laid_internal_strconv_uint64pow10), ("unicode/utf8.acceptRanges", laid_unicode_utf8_acceptRanges), ("bytes.ErrTooLarge", laid_bytes_ErrTooLarge), ("net/url.table", laid_net_url_table), ("unicode/utf8.first", laid_unicode_utf8_first)] }
def FnPatchTextSaid : Prop := fnPatchTextRow.holds Tryz.pinned (OpenSpec.ofChange fnPatchTextSpec)

/-- ITS FALSE NEIGHBOUR: 'it returns false'. Refute it at one input. -/
def fnPatchTextWrong : ChangeSpec := { name := "fnPatchText", fn := fun _ => fun
  | [d1, d2] => { results := [.lit (.bool false)], args := [d1, d2] }
  | _ => none }
def FnPatchTextWrongFalsely : Prop := fnPatchTextRow.holds Tryz.pinned (OpenSpec.ofChange fnPatchTextWrong)

/-- 'laws.FnPatchDiffs': WHATEVER THE INPUT: true; the input reads as it did. -/
def fnPatchDiffsSpec : ChangeSpec := { name := "fnPatchDiffs", fn := fun _ => fun
  | [d1, d2] => { results := [.lit (.bool true)], args := [d1, d2] }
  | _ => none }
def fnPatchDiffsRow : OpenClaim := { program := "ytjebgfpcmooniaagreatdoor", sum := "b304decc09dad30840c595c18a90d1c9e8db1a2f931346c96bf197bbc66b967a", func := "given.example/pub-enjambment/laws.FnPatchDiffs", spec := "fnPatchDiffs", inPlace := ["internal/abi.NoEscape", "internal/bytealg.MakeNoZero", "math.archMax", "math.Float64bits", "math.Float64frombits", "math.archMin"], unfollowed := true, recurses := true, named := ["bytes.ErrTooLarge", "unicode/utf8.first", "unicode/utf8.acceptRanges"], apart := false, laid := [("unicode/utf8.acceptRanges", laid_unicode_utf8_acceptRanges), ("bytes.ErrTooLarge", laid_bytes_ErrTooLarge), ("unicode/utf8.first", laid_unicode_utf8_first)] }
def FnPatchDiffsSaid : Prop := fnPatchDiffsRow.holds Tryz.pinned (OpenSpec.ofChange fnPatchDiffsSpec)

/-- ITS FALSE NEIGHBOUR: 'it returns false'. Refute it at one input. -/
def fnPatchDiffsWrong : ChangeSpec := { name := "fnPatchDiffs", fn := fun _ => fun
  | [d1, d2] => { results := [.lit (.bool false)], args := [d1, d2] }
  | _ => none }
def FnPatchDiffsWrongFalsely : Prop := fnPatchDiffsRow.holds Tryz.pinned (OpenSpec.ofChange fnPatchDiffsWrong)

/-- 'laws.FnPatchRoad': WHATEVER THE INPUT: true; the input reads as it did. -/
def fnPatchRoadSpec : ChangeSpec := { name := "fnPatchRoad", fn := fun _ => fun
  | [d1, d2, d3] => { results := [.lit (.bool true)], args := [d1, d2, d3] }
  | _ => none }
def fnPatchRoadRow : OpenClaim := { program := "ytjebgfpcmooniaagreatdoor", sum := "b304decc09dad30840c595c18a90d1c9e8db1a2f931346c96bf197bbc66b967a", func := "given.example/pub-enjambment/laws.FnPatchRoad", spec := "fnPatchRoad", inPlace := ["internal/abi.NoEscape", "internal/bytealg.MakeNoZero", "math.archMax", "math.Float64bits", "math.Float64frombits", "math.archMin"], unfollowed := true, recurses := true, named := ["bytes.ErrTooLarge", "unicode/utf8.first", "unicode/utf8.acceptRanges"], apart := false, laid := [("unicode/utf8.acceptRanges", laid_unicode_utf8_acceptRanges), ("bytes.ErrTooLarge", laid_bytes_ErrTooLarge), ("unicode/utf8.first", laid_unicode_utf8_first)] }
def FnPatchRoadSaid : Prop := fnPatchRoadRow.holds Tryz.pinned (OpenSpec.ofChange fnPatchRoadSpec)

/-- ITS FALSE NEIGHBOUR: 'it returns false'. Refute it at one input. -/
def fnPatchRoadWrong : ChangeSpec := { name := "fnPatchRoad", fn := fun _ => fun
  | [d1, d2, d3] => { results := [.lit (.bool false)], args := [d1, d2, d3] }
  | _ => none }
def FnPatchRoadWrongFalsely : Prop := fnPatchRoadRow.holds Tryz.pinned (OpenSpec.ofChange fnPatchRoadWrong)

/-- 'laws.FnPatchWide': WHATEVER THE INPUT: true; the input reads as it did. -/
def fnPatchWideSpec : ChangeSpec := { name := "fnPatchWide", fn := fun _ => fun
  | [d1, d2, d3] => { results := [.lit (.bool true)], args := [d1, d2, d3] }
  | _ => none }
def fnPatchWideRow : OpenClaim := { program := "ytjebgfpcmooniaagreatdoor", sum := "b304decc09dad30840c595c18a90d1c9e8db1a2f931346c96bf197bbc66b967a", func := "given.example/pub-enjambment/laws.FnPatchWide", spec := "fnPatchWide", inPlace := ["internal/abi.NoEscape", "internal/bytealg.MakeNoZero", "math.archMax", "math.Float64bits", "math.Float64frombits", "math.archMin"], unfollowed := true, recurses := true, named := ["bytes.ErrTooLarge", "unicode/utf8.first", "unicode/utf8.acceptRanges"], apart := false, laid := [("unicode/utf8.acceptRanges", laid_unicode_utf8_acceptRanges), ("bytes.ErrTooLarge", laid_bytes_ErrTooLarge), ("unicode/utf8.first", laid_unicode_utf8_first)] }
def FnPatchWideSaid : Prop := fnPatchWideRow.holds Tryz.pinned (OpenSpec.ofChange fnPatchWideSpec)

/-- ITS FALSE NEIGHBOUR: 'it returns false'. Refute it at one input. -/
def fnPatchWideWrong : ChangeSpec := { name := "fnPatchWide", fn := fun _ => fun
  | [d1, d2, d3] => { results := [.lit (.bool false)], args := [d1, d2, d3] }
  | _ => none }
def FnPatchWideWrongFalsely : Prop := fnPatchWideRow.holds Tryz.pinned (OpenSpec.ofChange fnPatchWideWrong)

/-- 'laws.FnDeltaRoad': WHATEVER THE INPUT: true; the input reads as it did. -/
def fnDeltaRoadSpec : ChangeSpec := { name := "fnDeltaRoad", fn := fun _ => fun
  | [d1, d2, d3] => { results := [.lit (.bool true)], args := [d1, d2, d3] }
  | _ => none }
def fnDeltaRoadRow : OpenClaim := { program := "ytjebgfpcmooniaagreatdoor", sum := "b304decc09dad30840c595c18a90d1c9e8db1a2f931346c96bf197bbc66b967a", func := "given.example/pub-enjambment/laws.FnDeltaRoad", spec := "fnDeltaRoad", inPlace := ["internal/abi.NoEscape", "internal/bytealg.MakeNoZero", "math.archMax", "math.Float64bits", "math.Float64frombits", "math.archMin"], unfollowed := true, recurses := true, named := ["unicode/utf8.first", "unicode/utf8.acceptRanges", "bytes.ErrTooLarge", "net/url.table", "internal/strconv.uint64pow10", "math/bits.deBruijn32tab", "math/bits.deBruijn64tab", "strconv.ErrSyntax", "strconv.ErrRange"], apart := false, laid := [("math/bits.deBruijn32tab", laid_math_bits_deBruijn32tab), ("math/bits.deBruijn64tab", laid_math_bits_deBruijn64tab), ("internal/strconv.uint64pow10", laid_internal_strconv_uint64pow10), ("unicode/utf8.acceptRanges", laid_unicode_utf8_acceptRanges), ("strconv.ErrRange", laid_strconv_ErrRange), ("strconv.ErrSyntax", laid_strconv_ErrSyntax), ("bytes.ErrTooLarge", laid_bytes_ErrTooLarge), ("net/url.table", laid_net_url_table), ("unicode/utf8.first", laid_unicode_utf8_first)] }
def FnDeltaRoadSaid : Prop := fnDeltaRoadRow.holds Tryz.pinned (OpenSpec.ofChange fnDeltaRoadSpec)

/-- ITS FALSE NEIGHBOUR: 'it returns false'. Refute it at one input. -/
def fnDeltaRoadWrong : ChangeSpec := { name := "fnDeltaRoad", fn := fun _ => fun
  | [d1, d2, d3] => { results := [.lit (.bool false)], args := [d1, d2, d3] }
  | _ => none }
def FnDeltaRoadWrongFalsely : Prop := fnDeltaRoadRow.holds Tryz.pinned (OpenSpec.ofChange fnDeltaRoadWrong)

/-- 'laws.FnApplyExact': WHATEVER THE INPUT: true; the input reads as it did. -/
def fnApplyExactSpec : ChangeSpec := { name := "fnApplyExact", fn := fun _ => fun
  | [d1, d2, d3, d4] => { results := [.lit (.bool true)], args := [d1, d2, d3, d4] }
  | _ => none }
def fnApplyExactRow : OpenClaim := { program := "ytjebgfpcmooniaagreatdoor", sum := "b304decc09dad30840c595c18a90d1c9e8db1a2f931346c96bf197bbc66b967a", func := "given.example/pub-enjambment/laws.FnApplyExact", spec := "fnApplyExact", inPlace := ["internal/abi.NoEscape", "internal/bytealg.MakeNoZero", "math.archMax", "math.Float64bits", "math.Float64frombits", "math.archMin"], unfollowed := true, recurses := true, named := ["bytes.ErrTooLarge", "unicode/utf8.first", "unicode/utf8.acceptRanges"], apart := false, laid := [("unicode/utf8.acceptRanges", laid_unicode_utf8_acceptRanges), ("bytes.ErrTooLarge", laid_bytes_ErrTooLarge), ("unicode/utf8.first", laid_unicode_utf8_first)] }
def FnApplyExactSaid : Prop := fnApplyExactRow.holds Tryz.pinned (OpenSpec.ofChange fnApplyExactSpec)

/-- ITS FALSE NEIGHBOUR: 'it returns false'. Refute it at one input. -/
def fnApplyExactWrong : ChangeSpec := { name := "fnApplyExact", fn := fun _ => fun
  | [d1, d2, d3, d4] => { results := [.lit (.bool false)], args := [d1, d2, d3, d4] }
  | _ => none }
def FnApplyExactWrongFalsely : Prop := fnApplyExactRow.holds Tryz.pinned (OpenSpec.ofChange fnApplyExactWrong)

/-- 'laws.FnApplySteps': WHATEVER THE INPUT: true; the input reads as it did. -/
def fnApplyStepsSpec : ChangeSpec := { name := "fnApplySteps", fn := fun _ => fun
  | [d1, d2, d3, d4] => { results := [.lit (.bool true)], args := [d1, d2, d3, d4] }
  | _ => none }
def fnApplyStepsRow : OpenClaim := { program := "ytjebgfpcmooniaagreatdoor", sum := "b304decc09dad30840c595c18a90d1c9e8db1a2f931346c96bf197bbc66b967a", func := "given.example/pub-enjambment/laws.FnApplySteps", spec := "fnApplySteps", inPlace := ["internal/abi.NoEscape", "internal/bytealg.MakeNoZero", "math.archMax", "math.Float64bits", "math.Float64frombits", "math.archMin"], unfollowed := true, recurses := true, named := ["bytes.ErrTooLarge", "unicode/utf8.first", "unicode/utf8.acceptRanges"], apart := false, laid := [("unicode/utf8.acceptRanges", laid_unicode_utf8_acceptRanges), ("bytes.ErrTooLarge", laid_bytes_ErrTooLarge), ("unicode/utf8.first", laid_unicode_utf8_first)] }
def FnApplyStepsSaid : Prop := fnApplyStepsRow.holds Tryz.pinned (OpenSpec.ofChange fnApplyStepsSpec)

/-- ITS FALSE NEIGHBOUR: 'it returns false'. Refute it at one input. -/
def fnApplyStepsWrong : ChangeSpec := { name := "fnApplySteps", fn := fun _ => fun
  | [d1, d2, d3, d4] => { results := [.lit (.bool false)], args := [d1, d2, d3, d4] }
  | _ => none }
def FnApplyStepsWrongFalsely : Prop := fnApplyStepsRow.holds Tryz.pinned (OpenSpec.ofChange fnApplyStepsWrong)

/-- 'laws.FnPatchInner': WHATEVER THE INPUT: true; the input reads as it did. -/
def fnPatchInnerSpec : ChangeSpec := { name := "fnPatchInner", fn := fun _ => fun
  | [d1, d2] => { results := [.lit (.bool true)], args := [d1, d2] }
  | _ => none }
def fnPatchInnerRow : OpenClaim := { program := "ytjebgfpcmooniaagreatdoor", sum := "b304decc09dad30840c595c18a90d1c9e8db1a2f931346c96bf197bbc66b967a", func := "given.example/pub-enjambment/laws.FnPatchInner", spec := "fnPatchInner", inPlace := ["internal/abi.NoEscape", "internal/bytealg.MakeNoZero", "math.archMax", "math.Float64bits", "math.Float64frombits", "math.archMin"], unfollowed := true, recurses := true, named := ["bytes.ErrTooLarge", "unicode/utf8.first", "unicode/utf8.acceptRanges"], apart := false, laid := [("unicode/utf8.acceptRanges", laid_unicode_utf8_acceptRanges), ("bytes.ErrTooLarge", laid_bytes_ErrTooLarge), ("unicode/utf8.first", laid_unicode_utf8_first)] }
def FnPatchInnerSaid : Prop := fnPatchInnerRow.holds Tryz.pinned (OpenSpec.ofChange fnPatchInnerSpec)

/-- ITS FALSE NEIGHBOUR: 'it returns false'. Refute it at one input. -/
def fnPatchInnerWrong : ChangeSpec := { name := "fnPatchInner", fn := fun _ => fun
  | [d1, d2] => { results := [.lit (.bool false)], args := [d1, d2] }
  | _ => none }
def FnPatchInnerWrongFalsely : Prop := fnPatchInnerRow.holds Tryz.pinned (OpenSpec.ofChange fnPatchInnerWrong)

/-- 'laws.FnApplyOne': WHATEVER THE INPUT: true; the input reads as it did. -/
def fnApplyOneSpec : ChangeSpec := { name := "fnApplyOne", fn := fun _ => fun
  | [d1, d2, d3, d4, d5, d6] => { results := [.lit (.bool true)], args := [d1, d2, d3, d4, d5, d6] }
  | _ => none }
def fnApplyOneRow : OpenClaim := { program := "ytjebgfpcmooniaagreatdoor", sum := "b304decc09dad30840c595c18a90d1c9e8db1a2f931346c96bf197bbc66b967a", func := "given.example/pub-enjambment/laws.FnApplyOne", spec := "fnApplyOne", inPlace := ["internal/abi.NoEscape", "internal/bytealg.MakeNoZero", "math.archMax", "math.Float64bits", "math.Float64frombits", "math.archMin"], unfollowed := true, recurses := true, named := ["bytes.ErrTooLarge", "unicode/utf8.first", "unicode/utf8.acceptRanges"], apart := false, laid := [("unicode/utf8.acceptRanges", laid_unicode_utf8_acceptRanges), ("bytes.ErrTooLarge", laid_bytes_ErrTooLarge), ("unicode/utf8.first", laid_unicode_utf8_first)] }
def FnApplyOneSaid : Prop := fnApplyOneRow.holds Tryz.pinned (OpenSpec.ofChange fnApplyOneSpec)

/-- ITS FALSE NEIGHBOUR: 'it returns false'. Refute it at one input. -/
def fnApplyOneWrong : ChangeSpec := { name := "fnApplyOne", fn := fun _ => fun
  | [d1, d2, d3, d4, d5, d6] => { results := [.lit (.bool false)], args := [d1, d2, d3, d4, d5, d6] }
  | _ => none }
def FnApplyOneWrongFalsely : Prop := fnApplyOneRow.holds Tryz.pinned (OpenSpec.ofChange fnApplyOneWrong)

/-- 'laws.FnPatchBack': WHATEVER THE INPUT: true; the input reads as it did. -/
def fnPatchBackSpec : ChangeSpec := { name := "fnPatchBack", fn := fun _ => fun
  | [d1, d2] => { results := [.lit (.bool true)], args := [d1, d2] }
  | _ => none }
def fnPatchBackRow : OpenClaim := { program := "ytjebgfpcmooniaagreatdoor", sum := "b304decc09dad30840c595c18a90d1c9e8db1a2f931346c96bf197bbc66b967a", func := "given.example/pub-enjambment/laws.FnPatchBack", spec := "fnPatchBack", inPlace := ["internal/abi.NoEscape", "internal/bytealg.MakeNoZero", "math.archMax", "math.Float64bits", "math.Float64frombits", "math.archMin"], unfollowed := true, recurses := true, named := ["bytes.ErrTooLarge", "unicode/utf8.first", "unicode/utf8.acceptRanges", "internal/strconv.uint64pow10", "math/bits.deBruijn32tab", "math/bits.deBruijn64tab", "net/url.table", "strconv.ErrSyntax", "strconv.ErrRange"], apart := false, laid := [("math/bits.deBruijn32tab", laid_math_bits_deBruijn32tab), ("math/bits.deBruijn64tab", laid_math_bits_deBruijn64tab), ("internal/strconv.uint64pow10", laid_internal_strconv_uint64pow10), ("unicode/utf8.acceptRanges", laid_unicode_utf8_acceptRanges), ("strconv.ErrRange", laid_strconv_ErrRange), ("strconv.ErrSyntax", laid_strconv_ErrSyntax), ("bytes.ErrTooLarge", laid_bytes_ErrTooLarge), ("net/url.table", laid_net_url_table), ("unicode/utf8.first", laid_unicode_utf8_first)] }
def FnPatchBackSaid : Prop := fnPatchBackRow.holds Tryz.pinned (OpenSpec.ofChange fnPatchBackSpec)

/-- ITS FALSE NEIGHBOUR: 'it returns false'. Refute it at one input. -/
def fnPatchBackWrong : ChangeSpec := { name := "fnPatchBack", fn := fun _ => fun
  | [d1, d2] => { results := [.lit (.bool false)], args := [d1, d2] }
  | _ => none }
def FnPatchBackWrongFalsely : Prop := fnPatchBackRow.holds Tryz.pinned (OpenSpec.ofChange fnPatchBackWrong)

/-- 'laws.FnPatchWords': WHATEVER THE INPUT: true; the input reads as it did. -/
def fnPatchWordsSpec : ChangeSpec := { name := "fnPatchWords", fn := fun _ => fun
  | [d1, d2, d3] => { results := [.lit (.bool true)], args := [d1, d2, d3] }
  | _ => none }
def fnPatchWordsRow : OpenClaim := { program := "ytjebgfpcmooniaagreatdoor", sum := "b304decc09dad30840c595c18a90d1c9e8db1a2f931346c96bf197bbc66b967a", func := "given.example/pub-enjambment/laws.FnPatchWords", spec := "fnPatchWords", inPlace := ["internal/abi.NoEscape", "internal/bytealg.MakeNoZero", "math.archMax", "math.Float64bits", "math.Float64frombits", "math.archMin"], unfollowed := true, recurses := true, named := ["bytes.ErrTooLarge", "unicode/utf8.first", "unicode/utf8.acceptRanges", "internal/strconv.uint64pow10", "math/bits.deBruijn32tab", "math/bits.deBruijn64tab", "net/url.table", "strconv.ErrSyntax", "strconv.ErrRange"], apart := false, laid := [("math/bits.deBruijn32tab", laid_math_bits_deBruijn32tab), ("math/bits.deBruijn64tab", laid_math_bits_deBruijn64tab), ("internal/strconv.uint64pow10", laid_internal_strconv_uint64pow10), ("unicode/utf8.acceptRanges", laid_unicode_utf8_acceptRanges), ("strconv.ErrRange", laid_strconv_ErrRange), ("strconv.ErrSyntax", laid_strconv_ErrSyntax), ("bytes.ErrTooLarge", laid_bytes_ErrTooLarge), ("net/url.table", laid_net_url_table), ("unicode/utf8.first", laid_unicode_utf8_first)] }
def FnPatchWordsSaid : Prop := fnPatchWordsRow.holds Tryz.pinned (OpenSpec.ofChange fnPatchWordsSpec)

/-- ITS FALSE NEIGHBOUR: 'it returns false'. Refute it at one input. -/
def fnPatchWordsWrong : ChangeSpec := { name := "fnPatchWords", fn := fun _ => fun
  | [d1, d2, d3] => { results := [.lit (.bool false)], args := [d1, d2, d3] }
  | _ => none }
def FnPatchWordsWrongFalsely : Prop := fnPatchWordsRow.holds Tryz.pinned (OpenSpec.ofChange fnPatchWordsWrong)

/- THE SECOND FORM. 'bulk': how many values and letters a reading holds, each counted each time it is reached (what is shared counts as often as it is met; a slice's spare places count too). A statement '..UptoSaid' is the law's where the arguments, and the package variables that the reading takes, are together of bulk at most 1048576: NARROWER than '..Said'. Prove '..Said' where nothing that the law and all that it calls make is longer than what came in: it says more and counts as full. Else prove '..UptoSaid'. A law counts once. -/
mutual
def uptoBulk {H : Type} : DataW H → Nat
  | .lit (.string bytes) => bytes.length + 1
  | .lit _ => 1
  | .nil => 1
  | .ptr d => uptoBulk d + 1
  | .slice elems spare => uptoBulkAll elems + uptoBulkAll spare + 1
  | .agg parts => uptoBulkAll parts + 1
  | .iface _ d => uptoBulk d + 1
  | .map entries => uptoBulkEntries entries + 1
  | .held _ => 1
def uptoBulkAll {H : Type} : List (DataW H) → Nat
  | [] => 0
  | d :: r => uptoBulk d + uptoBulkAll r
def uptoBulkEntries {H : Type} : List (Lit × DataW H) → Nat
  | [] => 0
  | x :: r => uptoBulkEntry x + uptoBulkEntries r
def uptoBulkEntry {H : Type} : Lit × DataW H → Nat
  | (.string bytes, d) => bytes.length + uptoBulk d + 1
  | (_, d) => uptoBulk d + 1
 end
def uptoSmall : (H : Type) → List (DataW H) → Bool := fun _ ds => decide (uptoBulkAll ds ≤ 1048576)
def OpenSpec.upto (s : _root_.Go.ChangeSpec) : _root_.Go.OpenSpec := { _root_.Go.OpenSpec.ofChange s with cond := some uptoSmall }

/-- 'laws.FnPatchText', WHERE WHAT IT READS IS OF BULK AT MOST 1048576: true; the input reads as it did. -/
def fnPatchTextUptoRow : OpenClaim := { program := "ytjebgfpcmooniaagreatdoor", sum := "b304decc09dad30840c595c18a90d1c9e8db1a2f931346c96bf197bbc66b967a", func := "given.example/pub-enjambment/laws.FnPatchText", spec := "fnPatchText", inPlace := ["internal/abi.NoEscape", "internal/bytealg.MakeNoZero", "math.archMax", "math.Float64bits", "math.Float64frombits", "math.archMin"], unfollowed := true, recurses := true, named := ["bytes.ErrTooLarge", "unicode/utf8.first", "unicode/utf8.acceptRanges", "internal/strconv.uint64pow10", "math/bits.deBruijn32tab", "math/bits.deBruijn64tab", "net/url.table"], apart := false, laid := [("math/bits.deBruijn32tab", laid_math_bits_deBruijn32tab), ("math/bits.deBruijn64tab", laid_math_bits_deBruijn64tab), ("internal/strconv.uint64pow10", laid_internal_strconv_uint64pow10), ("unicode/utf8.acceptRanges", laid_unicode_utf8_acceptRanges), ("bytes.ErrTooLarge", laid_bytes_ErrTooLarge), ("net/url.table", laid_net_url_table), ("unicode/utf8.first", laid_unicode_utf8_first)], narrowed := true }
def FnPatchTextUptoSaid : Prop := fnPatchTextUptoRow.holds Tryz.pinned (OpenSpec.upto fnPatchTextSpec)

/-- 'laws.FnPatchDiffs', WHERE WHAT IT READS IS OF BULK AT MOST 1048576: true; the input reads as it did. -/
def fnPatchDiffsUptoRow : OpenClaim := { program := "ytjebgfpcmooniaagreatdoor", sum := "b304decc09dad30840c595c18a90d1c9e8db1a2f931346c96bf197bbc66b967a", func := "given.example/pub-enjambment/laws.FnPatchDiffs", spec := "fnPatchDiffs", inPlace := ["internal/abi.NoEscape", "internal/bytealg.MakeNoZero", "math.archMax", "math.Float64bits", "math.Float64frombits", "math.archMin"], unfollowed := true, recurses := true, named := ["bytes.ErrTooLarge", "unicode/utf8.first", "unicode/utf8.acceptRanges"], apart := false, laid := [("unicode/utf8.acceptRanges", laid_unicode_utf8_acceptRanges), ("bytes.ErrTooLarge", laid_bytes_ErrTooLarge), ("unicode/utf8.first", laid_unicode_utf8_first)], narrowed := true }
def FnPatchDiffsUptoSaid : Prop := fnPatchDiffsUptoRow.holds Tryz.pinned (OpenSpec.upto fnPatchDiffsSpec)

/-- 'laws.FnPatchRoad', WHERE WHAT IT READS IS OF BULK AT MOST 1048576: true; the input reads as it did. -/
def fnPatchRoadUptoRow : OpenClaim := { program := "ytjebgfpcmooniaagreatdoor", sum := "b304decc09dad30840c595c18a90d1c9e8db1a2f931346c96bf197bbc66b967a", func := "given.example/pub-enjambment/laws.FnPatchRoad", spec := "fnPatchRoad", inPlace := ["internal/abi.NoEscape", "internal/bytealg.MakeNoZero", "math.archMax", "math.Float64bits", "math.Float64frombits", "math.archMin"], unfollowed := true, recurses := true, named := ["bytes.ErrTooLarge", "unicode/utf8.first", "unicode/utf8.acceptRanges"], apart := false, laid := [("unicode/utf8.acceptRanges", laid_unicode_utf8_acceptRanges), ("bytes.ErrTooLarge", laid_bytes_ErrTooLarge), ("unicode/utf8.first", laid_unicode_utf8_first)], narrowed := true }
def FnPatchRoadUptoSaid : Prop := fnPatchRoadUptoRow.holds Tryz.pinned (OpenSpec.upto fnPatchRoadSpec)

/-- 'laws.FnPatchWide', WHERE WHAT IT READS IS OF BULK AT MOST 1048576: true; the input reads as it did. -/
def fnPatchWideUptoRow : OpenClaim := { program := "ytjebgfpcmooniaagreatdoor", sum := "b304decc09dad30840c595c18a90d1c9e8db1a2f931346c96bf197bbc66b967a", func := "given.example/pub-enjambment/laws.FnPatchWide", spec := "fnPatchWide", inPlace := ["internal/abi.NoEscape", "internal/bytealg.MakeNoZero", "math.archMax", "math.Float64bits", "math.Float64frombits", "math.archMin"], unfollowed := true, recurses := true, named := ["bytes.ErrTooLarge", "unicode/utf8.first", "unicode/utf8.acceptRanges"], apart := false, laid := [("unicode/utf8.acceptRanges", laid_unicode_utf8_acceptRanges), ("bytes.ErrTooLarge", laid_bytes_ErrTooLarge), ("unicode/utf8.first", laid_unicode_utf8_first)], narrowed := true }
def FnPatchWideUptoSaid : Prop := fnPatchWideUptoRow.holds Tryz.pinned (OpenSpec.upto fnPatchWideSpec)

/-- 'laws.FnDeltaRoad', WHERE WHAT IT READS IS OF BULK AT MOST 1048576: true; the input reads as it did. -/
def fnDeltaRoadUptoRow : OpenClaim := { program := "ytjebgfpcmooniaagreatdoor", sum := "b304decc09dad30840c595c18a90d1c9e8db1a2f931346c96bf197bbc66b967a", func := "given.example/pub-enjambment/laws.FnDeltaRoad", spec := "fnDeltaRoad", inPlace := ["internal/abi.NoEscape", "internal/bytealg.MakeNoZero", "math.archMax", "math.Float64bits", "math.Float64frombits", "math.archMin"], unfollowed := true, recurses := true, named := ["unicode/utf8.first", "unicode/utf8.acceptRanges", "bytes.ErrTooLarge", "net/url.table", "internal/strconv.uint64pow10", "math/bits.deBruijn32tab", "math/bits.deBruijn64tab", "strconv.ErrSyntax", "strconv.ErrRange"], apart := false, laid := [("math/bits.deBruijn32tab", laid_math_bits_deBruijn32tab), ("math/bits.deBruijn64tab", laid_math_bits_deBruijn64tab), ("internal/strconv.uint64pow10", laid_internal_strconv_uint64pow10), ("unicode/utf8.acceptRanges", laid_unicode_utf8_acceptRanges), ("strconv.ErrRange", laid_strconv_ErrRange), ("strconv.ErrSyntax", laid_strconv_ErrSyntax), ("bytes.ErrTooLarge", laid_bytes_ErrTooLarge), ("net/url.table", laid_net_url_table), ("unicode/utf8.first", laid_unicode_utf8_first)], narrowed := true }
def FnDeltaRoadUptoSaid : Prop := fnDeltaRoadUptoRow.holds Tryz.pinned (OpenSpec.upto fnDeltaRoadSpec)

/-- 'laws.FnApplyExact', WHERE WHAT IT READS IS OF BULK AT MOST 1048576: true; the input reads as it did. -/
def fnApplyExactUptoRow : OpenClaim := { program := "ytjebgfpcmooniaagreatdoor", sum := "b304decc09dad30840c595c18a90d1c9e8db1a2f931346c96bf197bbc66b967a", func := "given.example/pub-enjambment/laws.FnApplyExact", spec := "fnApplyExact", inPlace := ["internal/abi.NoEscape", "internal/bytealg.MakeNoZero", "math.archMax", "math.Float64bits", "math.Float64frombits", "math.archMin"], unfollowed := true, recurses := true, named := ["bytes.ErrTooLarge", "unicode/utf8.first", "unicode/utf8.acceptRanges"], apart := false, laid := [("unicode/utf8.acceptRanges", laid_unicode_utf8_acceptRanges), ("bytes.ErrTooLarge", laid_bytes_ErrTooLarge), ("unicode/utf8.first", laid_unicode_utf8_first)], narrowed := true }
def FnApplyExactUptoSaid : Prop := fnApplyExactUptoRow.holds Tryz.pinned (OpenSpec.upto fnApplyExactSpec)

/-- 'laws.FnApplySteps', WHERE WHAT IT READS IS OF BULK AT MOST 1048576: true; the input reads as it did. -/
def fnApplyStepsUptoRow : OpenClaim := { program := "ytjebgfpcmooniaagreatdoor", sum := "b304decc09dad30840c595c18a90d1c9e8db1a2f931346c96bf197bbc66b967a", func := "given.example/pub-enjambment/laws.FnApplySteps", spec := "fnApplySteps", inPlace := ["internal/abi.NoEscape", "internal/bytealg.MakeNoZero", "math.archMax", "math.Float64bits", "math.Float64frombits", "math.archMin"], unfollowed := true, recurses := true, named := ["bytes.ErrTooLarge", "unicode/utf8.first", "unicode/utf8.acceptRanges"], apart := false, laid := [("unicode/utf8.acceptRanges", laid_unicode_utf8_acceptRanges), ("bytes.ErrTooLarge", laid_bytes_ErrTooLarge), ("unicode/utf8.first", laid_unicode_utf8_first)], narrowed := true }
def FnApplyStepsUptoSaid : Prop := fnApplyStepsUptoRow.holds Tryz.pinned (OpenSpec.upto fnApplyStepsSpec)

/-- 'laws.FnPatchInner', WHERE WHAT IT READS IS OF BULK AT MOST 1048576: true; the input reads as it did. -/
def fnPatchInnerUptoRow : OpenClaim := { program := "ytjebgfpcmooniaagreatdoor", sum := "b304decc09dad30840c595c18a90d1c9e8db1a2f931346c96bf197bbc66b967a", func := "given.example/pub-enjambment/laws.FnPatchInner", spec := "fnPatchInner", inPlace := ["internal/abi.NoEscape", "internal/bytealg.MakeNoZero", "math.archMax", "math.Float64bits", "math.Float64frombits", "math.archMin"], unfollowed := true, recurses := true, named := ["bytes.ErrTooLarge", "unicode/utf8.first", "unicode/utf8.acceptRanges"], apart := false, laid := [("unicode/utf8.acceptRanges", laid_unicode_utf8_acceptRanges), ("bytes.ErrTooLarge", laid_bytes_ErrTooLarge), ("unicode/utf8.first", laid_unicode_utf8_first)], narrowed := true }
def FnPatchInnerUptoSaid : Prop := fnPatchInnerUptoRow.holds Tryz.pinned (OpenSpec.upto fnPatchInnerSpec)

/-- 'laws.FnApplyOne', WHERE WHAT IT READS IS OF BULK AT MOST 1048576: true; the input reads as it did. -/
def fnApplyOneUptoRow : OpenClaim := { program := "ytjebgfpcmooniaagreatdoor", sum := "b304decc09dad30840c595c18a90d1c9e8db1a2f931346c96bf197bbc66b967a", func := "given.example/pub-enjambment/laws.FnApplyOne", spec := "fnApplyOne", inPlace := ["internal/abi.NoEscape", "internal/bytealg.MakeNoZero", "math.archMax", "math.Float64bits", "math.Float64frombits", "math.archMin"], unfollowed := true, recurses := true, named := ["bytes.ErrTooLarge", "unicode/utf8.first", "unicode/utf8.acceptRanges"], apart := false, laid := [("unicode/utf8.acceptRanges", laid_unicode_utf8_acceptRanges), ("bytes.ErrTooLarge", laid_bytes_ErrTooLarge), ("unicode/utf8.first", laid_unicode_utf8_first)], narrowed := true }
def FnApplyOneUptoSaid : Prop := fnApplyOneUptoRow.holds Tryz.pinned (OpenSpec.upto fnApplyOneSpec)

/-- 'laws.FnPatchBack', WHERE WHAT IT READS IS OF BULK AT MOST 1048576: true; the input reads as it did. -/
def fnPatchBackUptoRow : OpenClaim := { program := "ytjebgfpcmooniaagreatdoor", sum := "b304decc09dad30840c595c18a90d1c9e8db1a2f931346c96bf197bbc66b967a", func := "given.example/pub-enjambment/laws.FnPatchBack", spec := "fnPatchBack", inPlace := ["internal/abi.NoEscape", "internal/bytealg.MakeNoZero", "math.archMax", "math.Float64bits", "math.Float64frombits", "math.archMin"], unfollowed := true, recurses := true, named := ["bytes.ErrTooLarge", "unicode/utf8.first", "unicode/utf8.acceptRanges", "internal/strconv.uint64pow10", "math/bits.deBruijn32tab", "math/bits.deBruijn64tab", "net/url.table", "strconv.ErrSyntax", "strconv.ErrRange"], apart := false, laid := [("math/bits.deBruijn32tab", laid_math_bits_deBruijn32tab), ("math/bits.deBruijn64tab", laid_math_bits_deBruijn64tab), ("internal/strconv.uint64pow10", laid_internal_strconv_uint64pow10), ("unicode/utf8.acceptRanges", laid_unicode_utf8_acceptRanges), ("strconv.ErrRange", laid_strconv_ErrRange), ("strconv.ErrSyntax", laid_strconv_ErrSyntax), ("bytes.ErrTooLarge", laid_bytes_ErrTooLarge), ("net/url.table", laid_net_url_table), ("unicode/utf8.first", laid_unicode_utf8_first)], narrowed := true }
def FnPatchBackUptoSaid : Prop := fnPatchBackUptoRow.holds Tryz.pinned (OpenSpec.upto fnPatchBackSpec)

/-- 'laws.FnPatchWords', WHERE WHAT IT READS IS OF BULK AT MOST 1048576: true; the input reads as it did. -/
def fnPatchWordsUptoRow : OpenClaim := { program := "ytjebgfpcmooniaagreatdoor", sum := "b304decc09dad30840c595c18a90d1c9e8db1a2f931346c96bf197bbc66b967a", func := "given.example/pub-enjambment/laws.FnPatchWords", spec := "fnPatchWords", inPlace := ["internal/abi.NoEscape", "internal/bytealg.MakeNoZero", "math.archMax", "math.Float64bits", "math.Float64frombits", "math.archMin"], unfollowed := true, recurses := true, named := ["bytes.ErrTooLarge", "unicode/utf8.first", "unicode/utf8.acceptRanges", "internal/strconv.uint64pow10", "math/bits.deBruijn32tab", "math/bits.deBruijn64tab", "net/url.table", "strconv.ErrSyntax", "strconv.ErrRange"], apart := false, laid := [("math/bits.deBruijn32tab", laid_math_bits_deBruijn32tab), ("math/bits.deBruijn64tab", laid_math_bits_deBruijn64tab), ("internal/strconv.uint64pow10", laid_internal_strconv_uint64pow10), ("unicode/utf8.acceptRanges", laid_unicode_utf8_acceptRanges), ("strconv.ErrRange", laid_strconv_ErrRange), ("strconv.ErrSyntax", laid_strconv_ErrSyntax), ("bytes.ErrTooLarge", laid_bytes_ErrTooLarge), ("net/url.table", laid_net_url_table), ("unicode/utf8.first", laid_unicode_utf8_first)], narrowed := true }
def FnPatchWordsUptoSaid : Prop := fnPatchWordsUptoRow.holds Tryz.pinned (OpenSpec.upto fnPatchWordsSpec)

end Rows
end Go.Proofs.YtjebgfpcmooniaaGreatDoor

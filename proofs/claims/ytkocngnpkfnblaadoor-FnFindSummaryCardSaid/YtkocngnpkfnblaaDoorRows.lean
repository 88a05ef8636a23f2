/-
  NARROWER THAN 'FOR EVERY INPUT', by the rows' own cells (each row's printed sentence says how): FnSummaryEnds: laid · FnFindAlloc: laid · FnExactFind1: laid · FnFindSummary: laid · FnExactBitRange: laid · FnExactFindLarge: laid · FnExactFindSmall: laid · FnExactSummarize: laid · FnExactFind: laid · FnFindLater: laid · FnFindLess: laid · FnFindRoads: laid · FnMergeChunks: laid · FnMergeOne: laid.
  DERIVED. THE GIVEN ROWS OF THIS SEAT. 14 by the template 'for every input the law returns true; each argument reads behind the call as it read before'; 0 by the template 'total and deterministic' (their statements: YtkocngnpkfnblaaDoorTotals.lean).
  GIVEN WITH THE SEED: the statements are not yours to turn. If you find one false, say at which input.
  Laid BY PROGRAM, IN A SANDBOX (cutbox-rows.mjs): the forced cells as the released guide's own fill.sh prints them over the translation b334d59d9201341a… (all of the seat's roots in one cut). By AI agents, Wed Nov 11 2026. No macro, syntax, notation, axiom, sorry.
-/
import Derived.Test.YtkocngnpkfnblaaDoorChecked
import GoSem.Claim
import GoSem.ClaimJoined
import GoSem.ClaimMapViews
import Derived.JoinedTies
import Derived.KernelRfl
namespace Go.Proofs.YtkocngnpkfnblaaDoor
/- THE CELL 'sum', in the pinned program and in every row, IS THE sha256 OF THE DUMP (.gsa) THAT YtkocngnpkfnblaaDoorProg.lean LOADS. Nothing in Lean hashes anything: it is a label: what it is worth is what the hold of that sum in a sandbox is worth. -/
noncomputable def Tryd.pinned : Pinned := { name := "ytkocngnpkfnblaadoor", sum := "b334d59d9201341a3a8f22ddc6c3f4ba99380a20d9b0110db5198163b88282fa", checked := Tryd.checked }
namespace Rows
def none {H : Type} : Left H := { results := [], args := [] }

/- WHAT THE LISTED PACKAGE-LEVEL VARIABLES READ AS WHEN THE CALL BEGINS. Each datum BY PROGRAM (the guide's laid-datum.mjs) off the statement by which the dump's own 'gosem.cut.vars' lays the variable. In a bare row this is a premise. The card (YtkocngnpkfnblaaDoorCards.lean) ties it to the program's text. -/
def laid_math_bits_deBruijn64tab {H : Type} : DataW H := .agg [.lit (.int .u8 0), .lit (.int .u8 1), .lit (.int .u8 56), .lit (.int .u8 2), .lit (.int .u8 57), .lit (.int .u8 49), .lit (.int .u8 28), .lit (.int .u8 3), .lit (.int .u8 61), .lit (.int .u8 58), .lit (.int .u8 42), .lit (.int .u8 50), .lit (.int .u8 38), .lit (.int .u8 29), .lit (.int .u8 17), .lit (.int .u8 4), .lit (.int .u8 62), .lit (.int .u8 47), .lit (.int .u8 59), .lit (.int .u8 36), .lit (.int .u8 45), .lit (.int .u8 43), .lit (.int .u8 51), .lit (.int .u8 22), .lit (.int .u8 53), .lit (.int .u8 39), .lit (.int .u8 33), .lit (.int .u8 30), .lit (.int .u8 24), .lit (.int .u8 18), .lit (.int .u8 12), .lit (.int .u8 5), .lit (.int .u8 63), .lit (.int .u8 55), .lit (.int .u8 48), .lit (.int .u8 27), .lit (.int .u8 60), .lit (.int .u8 41), .lit (.int .u8 37), .lit (.int .u8 16), .lit (.int .u8 46), .lit (.int .u8 35), .lit (.int .u8 44), .lit (.int .u8 21), .lit (.int .u8 52), .lit (.int .u8 32), .lit (.int .u8 23), .lit (.int .u8 11), .lit (.int .u8 54), .lit (.int .u8 26), .lit (.int .u8 40), .lit (.int .u8 15), .lit (.int .u8 34), .lit (.int .u8 20), .lit (.int .u8 31), .lit (.int .u8 10), .lit (.int .u8 25), .lit (.int .u8 14), .lit (.int .u8 19), .lit (.int .u8 9), .lit (.int .u8 13), .lit (.int .u8 8), .lit (.int .u8 7), .lit (.int .u8 6)]

/-- 'laws.FnSummaryEnds': WHATEVER THE INPUT: true; the input reads as it did. -/
def fnSummaryEndsSpec : ChangeSpec := { name := "fnSummaryEnds", fn := fun _ => fun
  | [d] => { results := [.lit (.bool true)], args := [d] }
  | _ => none }
def fnSummaryEndsRow : OpenClaim := { program := "ytkocngnpkfnblaadoor", sum := "b334d59d9201341a3a8f22ddc6c3f4ba99380a20d9b0110db5198163b88282fa", func := "loop.example/pub-pagebitmaps/laws.FnSummaryEnds", spec := "fnSummaryEnds", named := ["math/bits.deBruijn64tab"], apart := false, laid := [("math/bits.deBruijn64tab", laid_math_bits_deBruijn64tab)] }
def FnSummaryEndsSaid : Prop := fnSummaryEndsRow.holds Tryd.pinned (OpenSpec.ofChange fnSummaryEndsSpec)

/-- ITS FALSE NEIGHBOUR: 'it returns false'. Refute it at one input. -/
def fnSummaryEndsWrong : ChangeSpec := { name := "fnSummaryEnds", fn := fun _ => fun
  | [d] => { results := [.lit (.bool false)], args := [d] }
  | _ => none }
def FnSummaryEndsWrongFalsely : Prop := fnSummaryEndsRow.holds Tryd.pinned (OpenSpec.ofChange fnSummaryEndsWrong)

/-- 'laws.FnFindAlloc': WHATEVER THE INPUT: true; the input reads as it did. -/
def fnFindAllocSpec : ChangeSpec := { name := "fnFindAlloc", fn := fun _ => fun
  | [d1, d2] => { results := [.lit (.bool true)], args := [d1, d2] }
  | _ => none }
def fnFindAllocRow : OpenClaim := { program := "ytkocngnpkfnblaadoor", sum := "b334d59d9201341a3a8f22ddc6c3f4ba99380a20d9b0110db5198163b88282fa", func := "loop.example/pub-pagebitmaps/laws.FnFindAlloc", spec := "fnFindAlloc", named := ["math/bits.deBruijn64tab"], apart := false, laid := [("math/bits.deBruijn64tab", laid_math_bits_deBruijn64tab)] }
def FnFindAllocSaid : Prop := fnFindAllocRow.holds Tryd.pinned (OpenSpec.ofChange fnFindAllocSpec)

/-- ITS FALSE NEIGHBOUR: 'it returns false'. Refute it at one input. -/
def fnFindAllocWrong : ChangeSpec := { name := "fnFindAlloc", fn := fun _ => fun
  | [d1, d2] => { results := [.lit (.bool false)], args := [d1, d2] }
  | _ => none }
def FnFindAllocWrongFalsely : Prop := fnFindAllocRow.holds Tryd.pinned (OpenSpec.ofChange fnFindAllocWrong)

/-- 'laws.FnExactFind1': WHATEVER THE INPUT: true; the input reads as it did. -/
def fnExactFind1Spec : ChangeSpec := { name := "fnExactFind1", fn := fun _ => fun
  | [d1, d2] => { results := [.lit (.bool true)], args := [d1, d2] }
  | _ => none }
def fnExactFind1Row : OpenClaim := { program := "ytkocngnpkfnblaadoor", sum := "b334d59d9201341a3a8f22ddc6c3f4ba99380a20d9b0110db5198163b88282fa", func := "loop.example/pub-pagebitmaps/laws.FnExactFind1", spec := "fnExactFind1", named := ["math/bits.deBruijn64tab"], apart := false, laid := [("math/bits.deBruijn64tab", laid_math_bits_deBruijn64tab)] }
def FnExactFind1Said : Prop := fnExactFind1Row.holds Tryd.pinned (OpenSpec.ofChange fnExactFind1Spec)

/-- ITS FALSE NEIGHBOUR: 'it returns false'. Refute it at one input. -/
def fnExactFind1Wrong : ChangeSpec := { name := "fnExactFind1", fn := fun _ => fun
  | [d1, d2] => { results := [.lit (.bool false)], args := [d1, d2] }
  | _ => none }
def FnExactFind1WrongFalsely : Prop := fnExactFind1Row.holds Tryd.pinned (OpenSpec.ofChange fnExactFind1Wrong)

/-- 'laws.FnFindSummary': WHATEVER THE INPUT: true; the input reads as it did. -/
def fnFindSummarySpec : ChangeSpec := { name := "fnFindSummary", fn := fun _ => fun
  | [d1, d2] => { results := [.lit (.bool true)], args := [d1, d2] }
  | _ => none }
def fnFindSummaryRow : OpenClaim := { program := "ytkocngnpkfnblaadoor", sum := "b334d59d9201341a3a8f22ddc6c3f4ba99380a20d9b0110db5198163b88282fa", func := "loop.example/pub-pagebitmaps/laws.FnFindSummary", spec := "fnFindSummary", named := ["math/bits.deBruijn64tab"], apart := false, laid := [("math/bits.deBruijn64tab", laid_math_bits_deBruijn64tab)] }
def FnFindSummarySaid : Prop := fnFindSummaryRow.holds Tryd.pinned (OpenSpec.ofChange fnFindSummarySpec)

/-- ITS FALSE NEIGHBOUR: 'it returns false'. Refute it at one input. -/
def fnFindSummaryWrong : ChangeSpec := { name := "fnFindSummary", fn := fun _ => fun
  | [d1, d2] => { results := [.lit (.bool false)], args := [d1, d2] }
  | _ => none }
def FnFindSummaryWrongFalsely : Prop := fnFindSummaryRow.holds Tryd.pinned (OpenSpec.ofChange fnFindSummaryWrong)

/-- 'laws.FnExactBitRange': WHATEVER THE INPUT: true; the input reads as it did. -/
def fnExactBitRangeSpec : ChangeSpec := { name := "fnExactBitRange", fn := fun _ => fun
  | [d1, d2] => { results := [.lit (.bool true)], args := [d1, d2] }
  | _ => none }
def fnExactBitRangeRow : OpenClaim := { program := "ytkocngnpkfnblaadoor", sum := "b334d59d9201341a3a8f22ddc6c3f4ba99380a20d9b0110db5198163b88282fa", func := "loop.example/pub-pagebitmaps/laws.FnExactBitRange", spec := "fnExactBitRange", named := ["math/bits.deBruijn64tab"], apart := false, laid := [("math/bits.deBruijn64tab", laid_math_bits_deBruijn64tab)] }
def FnExactBitRangeSaid : Prop := fnExactBitRangeRow.holds Tryd.pinned (OpenSpec.ofChange fnExactBitRangeSpec)

/-- ITS FALSE NEIGHBOUR: 'it returns false'. Refute it at one input. -/
def fnExactBitRangeWrong : ChangeSpec := { name := "fnExactBitRange", fn := fun _ => fun
  | [d1, d2] => { results := [.lit (.bool false)], args := [d1, d2] }
  | _ => none }
def FnExactBitRangeWrongFalsely : Prop := fnExactBitRangeRow.holds Tryd.pinned (OpenSpec.ofChange fnExactBitRangeWrong)

/-- 'laws.FnExactFindLarge': WHATEVER THE INPUT: true; the input reads as it did. -/
def fnExactFindLargeSpec : ChangeSpec := { name := "fnExactFindLarge", fn := fun _ => fun
  | [d1, d2, d3] => { results := [.lit (.bool true)], args := [d1, d2, d3] }
  | _ => none }
def fnExactFindLargeRow : OpenClaim := { program := "ytkocngnpkfnblaadoor", sum := "b334d59d9201341a3a8f22ddc6c3f4ba99380a20d9b0110db5198163b88282fa", func := "loop.example/pub-pagebitmaps/laws.FnExactFindLarge", spec := "fnExactFindLarge", named := ["math/bits.deBruijn64tab"], apart := false, laid := [("math/bits.deBruijn64tab", laid_math_bits_deBruijn64tab)] }
def FnExactFindLargeSaid : Prop := fnExactFindLargeRow.holds Tryd.pinned (OpenSpec.ofChange fnExactFindLargeSpec)

/-- ITS FALSE NEIGHBOUR: 'it returns false'. Refute it at one input. -/
def fnExactFindLargeWrong : ChangeSpec := { name := "fnExactFindLarge", fn := fun _ => fun
  | [d1, d2, d3] => { results := [.lit (.bool false)], args := [d1, d2, d3] }
  | _ => none }
def FnExactFindLargeWrongFalsely : Prop := fnExactFindLargeRow.holds Tryd.pinned (OpenSpec.ofChange fnExactFindLargeWrong)

/-- 'laws.FnExactFindSmall': WHATEVER THE INPUT: true; the input reads as it did. -/
def fnExactFindSmallSpec : ChangeSpec := { name := "fnExactFindSmall", fn := fun _ => fun
  | [d1, d2, d3] => { results := [.lit (.bool true)], args := [d1, d2, d3] }
  | _ => none }
def fnExactFindSmallRow : OpenClaim := { program := "ytkocngnpkfnblaadoor", sum := "b334d59d9201341a3a8f22ddc6c3f4ba99380a20d9b0110db5198163b88282fa", func := "loop.example/pub-pagebitmaps/laws.FnExactFindSmall", spec := "fnExactFindSmall", named := ["math/bits.deBruijn64tab"], apart := false, laid := [("math/bits.deBruijn64tab", laid_math_bits_deBruijn64tab)] }
def FnExactFindSmallSaid : Prop := fnExactFindSmallRow.holds Tryd.pinned (OpenSpec.ofChange fnExactFindSmallSpec)

/-- ITS FALSE NEIGHBOUR: 'it returns false'. Refute it at one input. -/
def fnExactFindSmallWrong : ChangeSpec := { name := "fnExactFindSmall", fn := fun _ => fun
  | [d1, d2, d3] => { results := [.lit (.bool false)], args := [d1, d2, d3] }
  | _ => none }
def FnExactFindSmallWrongFalsely : Prop := fnExactFindSmallRow.holds Tryd.pinned (OpenSpec.ofChange fnExactFindSmallWrong)

/-- 'laws.FnExactSummarize': WHATEVER THE INPUT: true; the input reads as it did. -/
def fnExactSummarizeSpec : ChangeSpec := { name := "fnExactSummarize", fn := fun _ => fun
  | [d] => { results := [.lit (.bool true)], args := [d] }
  | _ => none }
def fnExactSummarizeRow : OpenClaim := { program := "ytkocngnpkfnblaadoor", sum := "b334d59d9201341a3a8f22ddc6c3f4ba99380a20d9b0110db5198163b88282fa", func := "loop.example/pub-pagebitmaps/laws.FnExactSummarize", spec := "fnExactSummarize", named := ["math/bits.deBruijn64tab"], apart := false, laid := [("math/bits.deBruijn64tab", laid_math_bits_deBruijn64tab)] }
def FnExactSummarizeSaid : Prop := fnExactSummarizeRow.holds Tryd.pinned (OpenSpec.ofChange fnExactSummarizeSpec)

/-- ITS FALSE NEIGHBOUR: 'it returns false'. Refute it at one input. -/
def fnExactSummarizeWrong : ChangeSpec := { name := "fnExactSummarize", fn := fun _ => fun
  | [d] => { results := [.lit (.bool false)], args := [d] }
  | _ => none }
def FnExactSummarizeWrongFalsely : Prop := fnExactSummarizeRow.holds Tryd.pinned (OpenSpec.ofChange fnExactSummarizeWrong)

/-- 'laws.FnExactFind': WHATEVER THE INPUT: true; the input reads as it did. -/
def fnExactFindSpec : ChangeSpec := { name := "fnExactFind", fn := fun _ => fun
  | [d1, d2, d3] => { results := [.lit (.bool true)], args := [d1, d2, d3] }
  | _ => none }
def fnExactFindRow : OpenClaim := { program := "ytkocngnpkfnblaadoor", sum := "b334d59d9201341a3a8f22ddc6c3f4ba99380a20d9b0110db5198163b88282fa", func := "loop.example/pub-pagebitmaps/laws.FnExactFind", spec := "fnExactFind", named := ["math/bits.deBruijn64tab"], apart := false, laid := [("math/bits.deBruijn64tab", laid_math_bits_deBruijn64tab)] }
def FnExactFindSaid : Prop := fnExactFindRow.holds Tryd.pinned (OpenSpec.ofChange fnExactFindSpec)

/-- ITS FALSE NEIGHBOUR: 'it returns false'. Refute it at one input. -/
def fnExactFindWrong : ChangeSpec := { name := "fnExactFind", fn := fun _ => fun
  | [d1, d2, d3] => { results := [.lit (.bool false)], args := [d1, d2, d3] }
  | _ => none }
def FnExactFindWrongFalsely : Prop := fnExactFindRow.holds Tryd.pinned (OpenSpec.ofChange fnExactFindWrong)

/-- 'laws.FnFindLater': WHATEVER THE INPUT: true; the input reads as it did. -/
def fnFindLaterSpec : ChangeSpec := { name := "fnFindLater", fn := fun _ => fun
  | [d1, d2, d3] => { results := [.lit (.bool true)], args := [d1, d2, d3] }
  | _ => none }
def fnFindLaterRow : OpenClaim := { program := "ytkocngnpkfnblaadoor", sum := "b334d59d9201341a3a8f22ddc6c3f4ba99380a20d9b0110db5198163b88282fa", func := "loop.example/pub-pagebitmaps/laws.FnFindLater", spec := "fnFindLater", named := ["math/bits.deBruijn64tab"], apart := false, laid := [("math/bits.deBruijn64tab", laid_math_bits_deBruijn64tab)] }
def FnFindLaterSaid : Prop := fnFindLaterRow.holds Tryd.pinned (OpenSpec.ofChange fnFindLaterSpec)

/-- ITS FALSE NEIGHBOUR: 'it returns false'. Refute it at one input. -/
def fnFindLaterWrong : ChangeSpec := { name := "fnFindLater", fn := fun _ => fun
  | [d1, d2, d3] => { results := [.lit (.bool false)], args := [d1, d2, d3] }
  | _ => none }
def FnFindLaterWrongFalsely : Prop := fnFindLaterRow.holds Tryd.pinned (OpenSpec.ofChange fnFindLaterWrong)

/-- 'laws.FnFindLess': WHATEVER THE INPUT: true; the input reads as it did. -/
def fnFindLessSpec : ChangeSpec := { name := "fnFindLess", fn := fun _ => fun
  | [d1, d2, d3] => { results := [.lit (.bool true)], args := [d1, d2, d3] }
  | _ => none }
def fnFindLessRow : OpenClaim := { program := "ytkocngnpkfnblaadoor", sum := "b334d59d9201341a3a8f22ddc6c3f4ba99380a20d9b0110db5198163b88282fa", func := "loop.example/pub-pagebitmaps/laws.FnFindLess", spec := "fnFindLess", named := ["math/bits.deBruijn64tab"], apart := false, laid := [("math/bits.deBruijn64tab", laid_math_bits_deBruijn64tab)] }
def FnFindLessSaid : Prop := fnFindLessRow.holds Tryd.pinned (OpenSpec.ofChange fnFindLessSpec)

/-- ITS FALSE NEIGHBOUR: 'it returns false'. Refute it at one input. -/
def fnFindLessWrong : ChangeSpec := { name := "fnFindLess", fn := fun _ => fun
  | [d1, d2, d3] => { results := [.lit (.bool false)], args := [d1, d2, d3] }
  | _ => none }
def FnFindLessWrongFalsely : Prop := fnFindLessRow.holds Tryd.pinned (OpenSpec.ofChange fnFindLessWrong)

/-- 'laws.FnFindRoads': WHATEVER THE INPUT: true; the input reads as it did. -/
def fnFindRoadsSpec : ChangeSpec := { name := "fnFindRoads", fn := fun _ => fun
  | [d1, d2] => { results := [.lit (.bool true)], args := [d1, d2] }
  | _ => none }
def fnFindRoadsRow : OpenClaim := { program := "ytkocngnpkfnblaadoor", sum := "b334d59d9201341a3a8f22ddc6c3f4ba99380a20d9b0110db5198163b88282fa", func := "loop.example/pub-pagebitmaps/laws.FnFindRoads", spec := "fnFindRoads", named := ["math/bits.deBruijn64tab"], apart := false, laid := [("math/bits.deBruijn64tab", laid_math_bits_deBruijn64tab)] }
def FnFindRoadsSaid : Prop := fnFindRoadsRow.holds Tryd.pinned (OpenSpec.ofChange fnFindRoadsSpec)

/-- ITS FALSE NEIGHBOUR: 'it returns false'. Refute it at one input. -/
def fnFindRoadsWrong : ChangeSpec := { name := "fnFindRoads", fn := fun _ => fun
  | [d1, d2] => { results := [.lit (.bool false)], args := [d1, d2] }
  | _ => none }
def FnFindRoadsWrongFalsely : Prop := fnFindRoadsRow.holds Tryd.pinned (OpenSpec.ofChange fnFindRoadsWrong)

/-- 'laws.FnMergeChunks': WHATEVER THE INPUT: true; the input reads as it did. -/
def fnMergeChunksSpec : ChangeSpec := { name := "fnMergeChunks", fn := fun _ => fun
  | [d1, d2] => { results := [.lit (.bool true)], args := [d1, d2] }
  | _ => none }
def fnMergeChunksRow : OpenClaim := { program := "ytkocngnpkfnblaadoor", sum := "b334d59d9201341a3a8f22ddc6c3f4ba99380a20d9b0110db5198163b88282fa", func := "loop.example/pub-pagebitmaps/laws.FnMergeChunks", spec := "fnMergeChunks", named := ["math/bits.deBruijn64tab"], apart := false, laid := [("math/bits.deBruijn64tab", laid_math_bits_deBruijn64tab)] }
def FnMergeChunksSaid : Prop := fnMergeChunksRow.holds Tryd.pinned (OpenSpec.ofChange fnMergeChunksSpec)

/-- ITS FALSE NEIGHBOUR: 'it returns false'. Refute it at one input. -/
def fnMergeChunksWrong : ChangeSpec := { name := "fnMergeChunks", fn := fun _ => fun
  | [d1, d2] => { results := [.lit (.bool false)], args := [d1, d2] }
  | _ => none }
def FnMergeChunksWrongFalsely : Prop := fnMergeChunksRow.holds Tryd.pinned (OpenSpec.ofChange fnMergeChunksWrong)

/-- 'laws.FnMergeOne': WHATEVER THE INPUT: true; the input reads as it did. -/
def fnMergeOneSpec : ChangeSpec := { name := "fnMergeOne", fn := fun _ => fun
  | [d] => { results := [.lit (.bool true)], args := [d] }
  | _ => none }
def fnMergeOneRow : OpenClaim := { program := "ytkocngnpkfnblaadoor", sum := "b334d59d9201341a3a8f22ddc6c3f4ba99380a20d9b0110db5198163b88282fa", func := "loop.example/pub-pagebitmaps/laws.FnMergeOne", spec := "fnMergeOne", named := ["math/bits.deBruijn64tab"], apart := false, laid := [("math/bits.deBruijn64tab", laid_math_bits_deBruijn64tab)] }
def FnMergeOneSaid : Prop := fnMergeOneRow.holds Tryd.pinned (OpenSpec.ofChange fnMergeOneSpec)

/-- ITS FALSE NEIGHBOUR: 'it returns false'. Refute it at one input. -/
def fnMergeOneWrong : ChangeSpec := { name := "fnMergeOne", fn := fun _ => fun
  | [d] => { results := [.lit (.bool false)], args := [d] }
  | _ => none }
def FnMergeOneWrongFalsely : Prop := fnMergeOneRow.holds Tryd.pinned (OpenSpec.ofChange fnMergeOneWrong)

/- THE SECOND FORM. 'bulk': how many values and letters a reading holds, each counted each time it is reached (what is shared counts as often as it is met; a slice's spare places count too). A statement '..UptoSaid' is the law's where the arguments, and the package variables that the reading takes, are together of bulk at most 1048576: NARROWER than '..Said'. Prove '..Said' where nothing that the law and all that it calls make is longer than what came in: it says more and counts as full. Else prove '..UptoSaid'. A law counts once. -/
mutual
def uptoBulk {H : Type} : DataW H → Nat
  | .lit (.string bytes) => bytes.length + 1
  | .lit _ => 1
  | .nil => 1
  | .ptr d => uptoBulk d + 1
  | .slice elems spare => uptoBulkAll elems + uptoBulkAll spare + 1
  | .agg parts => uptoBulkAll parts + 1
  | .iface _ d => uptoBulk d + 1
  | .map entries => uptoBulkEntries entries + 1
  | .held _ => 1
def uptoBulkAll {H : Type} : List (DataW H) → Nat
  | [] => 0
  | d :: r => uptoBulk d + uptoBulkAll r
def uptoBulkEntries {H : Type} : List (Lit × DataW H) → Nat
  | [] => 0
  | x :: r => uptoBulkEntry x + uptoBulkEntries r
def uptoBulkEntry {H : Type} : Lit × DataW H → Nat
  | (.string bytes, d) => bytes.length + uptoBulk d + 1
  | (_, d) => uptoBulk d + 1
 end
def uptoSmall : (H : Type) → List (DataW H) → Bool := fun _ ds => decide (uptoBulkAll ds ≤ 1048576)
def OpenSpec.upto (s : _root_.Go.ChangeSpec) : _root_.Go.OpenSpec := { _root_.Go.OpenSpec.ofChange s with cond := some uptoSmall }

/-- 'laws.FnSummaryEnds', WHERE WHAT IT READS IS OF BULK AT MOST 1048576: true; the input reads as it did. -/
def fnSummaryEndsUptoRow : OpenClaim := { program := "ytkocngnpkfnblaadoor", sum := "b334d59d9201341a3a8f22ddc6c3f4ba99380a20d9b0110db5198163b88282fa", func := "loop.example/pub-pagebitmaps/laws.FnSummaryEnds", spec := "fnSummaryEnds", named := ["math/bits.deBruijn64tab"], apart := false, laid := [("math/bits.deBruijn64tab", laid_math_bits_deBruijn64tab)], narrowed := true }
def FnSummaryEndsUptoSaid : Prop := fnSummaryEndsUptoRow.holds Tryd.pinned (OpenSpec.upto fnSummaryEndsSpec)

/-- 'laws.FnFindAlloc', WHERE WHAT IT READS IS OF BULK AT MOST 1048576: true; the input reads as it did. -/
def fnFindAllocUptoRow : OpenClaim := { program := "ytkocngnpkfnblaadoor", sum := "b334d59d9201341a3a8f22ddc6c3f4ba99380a20d9b0110db5198163b88282fa", func := "loop.example/pub-pagebitmaps/laws.FnFindAlloc", spec := "fnFindAlloc", named := ["math/bits.deBruijn64tab"], apart := false, laid := [("math/bits.deBruijn64tab", laid_math_bits_deBruijn64tab)], narrowed := true }
def FnFindAllocUptoSaid : Prop := fnFindAllocUptoRow.holds Tryd.pinned (OpenSpec.upto fnFindAllocSpec)

/-- 'laws.FnExactFind1', WHERE WHAT IT READS IS OF BULK AT MOST 1048576: true; the input reads as it did. -/
def fnExactFind1UptoRow : OpenClaim := { program := "ytkocngnpkfnblaadoor", sum := "b334d59d9201341a3a8f22ddc6c3f4ba99380a20d9b0110db5198163b88282fa", func := "loop.example/pub-pagebitmaps/laws.FnExactFind1", spec := "fnExactFind1", named := ["math/bits.deBruijn64tab"], apart := false, laid := [("math/bits.deBruijn64tab", laid_math_bits_deBruijn64tab)], narrowed := true }
def FnExactFind1UptoSaid : Prop := fnExactFind1UptoRow.holds Tryd.pinned (OpenSpec.upto fnExactFind1Spec)

/-- 'laws.FnFindSummary', WHERE WHAT IT READS IS OF BULK AT MOST 1048576: true; the input reads as it did. -/
def fnFindSummaryUptoRow : OpenClaim := { program := "ytkocngnpkfnblaadoor", sum := "b334d59d9201341a3a8f22ddc6c3f4ba99380a20d9b0110db5198163b88282fa", func := "loop.example/pub-pagebitmaps/laws.FnFindSummary", spec := "fnFindSummary", named := ["math/bits.deBruijn64tab"], apart := false, laid := [("math/bits.deBruijn64tab", laid_math_bits_deBruijn64tab)], narrowed := true }
def FnFindSummaryUptoSaid : Prop := fnFindSummaryUptoRow.holds Tryd.pinned (OpenSpec.upto fnFindSummarySpec)

/-- 'laws.FnExactBitRange', WHERE WHAT IT READS IS OF BULK AT MOST 1048576: true; the input reads as it did. -/
def fnExactBitRangeUptoRow : OpenClaim := { program := "ytkocngnpkfnblaadoor", sum := "b334d59d9201341a3a8f22ddc6c3f4ba99380a20d9b0110db5198163b88282fa", func := "loop.example/pub-pagebitmaps/laws.FnExactBitRange", spec := "fnExactBitRange", named := ["math/bits.deBruijn64tab"], apart := false, laid := [("math/bits.deBruijn64tab", laid_math_bits_deBruijn64tab)], narrowed := true }
def FnExactBitRangeUptoSaid : Prop := fnExactBitRangeUptoRow.holds Tryd.pinned (OpenSpec.upto fnExactBitRangeSpec)

/-- 'laws.FnExactFindLarge', WHERE WHAT IT READS IS OF BULK AT MOST 1048576: true; the input reads as it did. -/
def fnExactFindLargeUptoRow : OpenClaim := { program := "ytkocngnpkfnblaadoor", sum := "b334d59d9201341a3a8f22ddc6c3f4ba99380a20d9b0110db5198163b88282fa", func := "loop.example/pub-pagebitmaps/laws.FnExactFindLarge", spec := "fnExactFindLarge", named := ["math/bits.deBruijn64tab"], apart := false, laid := [("math/bits.deBruijn64tab", laid_math_bits_deBruijn64tab)], narrowed := true }
def FnExactFindLargeUptoSaid : Prop := fnExactFindLargeUptoRow.holds Tryd.pinned (OpenSpec.upto fnExactFindLargeSpec)

/-- 'laws.FnExactFindSmall', WHERE WHAT IT READS IS OF BULK AT MOST 1048576: true; the input reads as it did. -/
def fnExactFindSmallUptoRow : OpenClaim := { program := "ytkocngnpkfnblaadoor", sum := "b334d59d9201341a3a8f22ddc6c3f4ba99380a20d9b0110db5198163b88282fa", func := "loop.example/pub-pagebitmaps/laws.FnExactFindSmall", spec := "fnExactFindSmall", named := ["math/bits.deBruijn64tab"], apart := false, laid := [("math/bits.deBruijn64tab", laid_math_bits_deBruijn64tab)], narrowed := true }
def FnExactFindSmallUptoSaid : Prop := fnExactFindSmallUptoRow.holds Tryd.pinned (OpenSpec.upto fnExactFindSmallSpec)

/-- 'laws.FnExactSummarize', WHERE WHAT IT READS IS OF BULK AT MOST 1048576: true; the input reads as it did. -/
def fnExactSummarizeUptoRow : OpenClaim := { program := "ytkocngnpkfnblaadoor", sum := "b334d59d9201341a3a8f22ddc6c3f4ba99380a20d9b0110db5198163b88282fa", func := "loop.example/pub-pagebitmaps/laws.FnExactSummarize", spec := "fnExactSummarize", named := ["math/bits.deBruijn64tab"], apart := false, laid := [("math/bits.deBruijn64tab", laid_math_bits_deBruijn64tab)], narrowed := true }
def FnExactSummarizeUptoSaid : Prop := fnExactSummarizeUptoRow.holds Tryd.pinned (OpenSpec.upto fnExactSummarizeSpec)

/-- 'laws.FnExactFind', WHERE WHAT IT READS IS OF BULK AT MOST 1048576: true; the input reads as it did. -/
def fnExactFindUptoRow : OpenClaim := { program := "ytkocngnpkfnblaadoor", sum := "b334d59d9201341a3a8f22ddc6c3f4ba99380a20d9b0110db5198163b88282fa", func := "loop.example/pub-pagebitmaps/laws.FnExactFind", spec := "fnExactFind", named := ["math/bits.deBruijn64tab"], apart := false, laid := [("math/bits.deBruijn64tab", laid_math_bits_deBruijn64tab)], narrowed := true }
def FnExactFindUptoSaid : Prop := fnExactFindUptoRow.holds Tryd.pinned (OpenSpec.upto fnExactFindSpec)

/-- 'laws.FnFindLater', WHERE WHAT IT READS IS OF BULK AT MOST 1048576: true; the input reads as it did. -/
def fnFindLaterUptoRow : OpenClaim := { program := "ytkocngnpkfnblaadoor", sum := "b334d59d9201341a3a8f22ddc6c3f4ba99380a20d9b0110db5198163b88282fa", func := "loop.example/pub-pagebitmaps/laws.FnFindLater", spec := "fnFindLater", named := ["math/bits.deBruijn64tab"], apart := false, laid := [("math/bits.deBruijn64tab", laid_math_bits_deBruijn64tab)], narrowed := true }
def FnFindLaterUptoSaid : Prop := fnFindLaterUptoRow.holds Tryd.pinned (OpenSpec.upto fnFindLaterSpec)

/-- 'laws.FnFindLess', WHERE WHAT IT READS IS OF BULK AT MOST 1048576: true; the input reads as it did. -/
def fnFindLessUptoRow : OpenClaim := { program := "ytkocngnpkfnblaadoor", sum := "b334d59d9201341a3a8f22ddc6c3f4ba99380a20d9b0110db5198163b88282fa", func := "loop.example/pub-pagebitmaps/laws.FnFindLess", spec := "fnFindLess", named := ["math/bits.deBruijn64tab"], apart := false, laid := [("math/bits.deBruijn64tab", laid_math_bits_deBruijn64tab)], narrowed := true }
def FnFindLessUptoSaid : Prop := fnFindLessUptoRow.holds Tryd.pinned (OpenSpec.upto fnFindLessSpec)

/-- 'laws.FnFindRoads', WHERE WHAT IT READS IS OF BULK AT MOST 1048576: true; the input reads as it did. -/
def fnFindRoadsUptoRow : OpenClaim := { program := "ytkocngnpkfnblaadoor", sum := "b334d59d9201341a3a8f22ddc6c3f4ba99380a20d9b0110db5198163b88282fa", func := "loop.example/pub-pagebitmaps/laws.FnFindRoads", spec := "fnFindRoads", named := ["math/bits.deBruijn64tab"], apart := false, laid := [("math/bits.deBruijn64tab", laid_math_bits_deBruijn64tab)], narrowed := true }
def FnFindRoadsUptoSaid : Prop := fnFindRoadsUptoRow.holds Tryd.pinned (OpenSpec.upto fnFindRoadsSpec)

/-- 'laws.FnMergeChunks', WHERE WHAT IT READS IS OF BULK AT MOST 1048576: true; the input reads as it did. -/
def fnMergeChunksUptoRow : OpenClaim := { program := "ytkocngnpkfnblaadoor", sum := "b334d59d9201341a3a8f22ddc6c3f4ba99380a20d9b0110db5198163b88282fa", func := "loop.example/pub-pagebitmaps/laws.FnMergeChunks", spec := "fnMergeChunks", named := ["math/bits.deBruijn64tab"], apart := false, laid := [("math/bits.deBruijn64tab", laid_math_bits_deBruijn64tab)], narrowed := true }
def FnMergeChunksUptoSaid : Prop := fnMergeChunksUptoRow.holds Tryd.pinned (OpenSpec.upto fnMergeChunksSpec)

/-- 'laws.FnMergeOne', WHERE WHAT IT READS IS OF BULK AT MOST 1048576: true; the input reads as it did. -/
def fnMergeOneUptoRow : OpenClaim := { program := "ytkocngnpkfnblaadoor", sum := "b334d59d9201341a3a8f22ddc6c3f4ba99380a20d9b0110db5198163b88282fa", func := "loop.example/pub-pagebitmaps/laws.FnMergeOne", spec := "fnMergeOne", named := ["math/bits.deBruijn64tab"], apart := false, laid := [("math/bits.deBruijn64tab", laid_math_bits_deBruijn64tab)], narrowed := true }
def FnMergeOneUptoSaid : Prop := fnMergeOneUptoRow.holds Tryd.pinned (OpenSpec.upto fnMergeOneSpec)

end Rows
end Go.Proofs.YtkocngnpkfnblaaDoor

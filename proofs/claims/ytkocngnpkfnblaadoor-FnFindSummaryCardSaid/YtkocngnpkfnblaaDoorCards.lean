/-
  DERIVED. GIVEN WITH THE SEED: THE CARDS: each row of YtkocngnpkfnblaaDoorRows.lean that lists a variable, with what it lists TIED to the program's text (the seventh form; the later family's looks); each row that meets fmt, with fmt's text TOLD by the authors' own Lean function (tested against real Go, not proved from fmt's source: count such statements apart). THE CARD IS WHAT COUNTS. Prove the row's statement (the work); the ties are given (YtkocngnpkfnblaaDoorTie.lean); close each card by the builder's one call (the guide's Derived/Test/ToyasCard.lean, 'card_holds'). Laid BY PROGRAM, IN A SANDBOX (cutbox-door.mjs). By AI agents, Wed Nov 11 2026. No macro, syntax, notation, axiom, sorry.
-/
import Derived.Test.YtkocngnpkfnblaaDoorRows
import GoSem.ClaimSeven
namespace Go.Proofs.YtkocngnpkfnblaaDoor
namespace Rows

/-- THE TIED CARD OF 'laws.FnSummaryEnds'. -/
def fnSummaryEndsCard : Claim7 := { stood := { row := fnSummaryEndsRow, standIns := [], harness := (true, "f2e7d653563900c7ead1574bf6931cc5751bd8d21ddad2109745e814cfc3dc11"), looks := false }, kinds := [], alts := [], laidByText := true, laidKinds := [.data], laidTests := true, laidLooks := .later }
def FnSummaryEndsCardSaid : Prop := Claim7.holds Tryd.pinned (.plain (OpenSpec.ofChange fnSummaryEndsSpec)) fnSummaryEndsCard

/-- THE TIED CARD OF 'laws.FnFindAlloc'. -/
def fnFindAllocCard : Claim7 := { stood := { row := fnFindAllocRow, standIns := [], harness := (true, "f2e7d653563900c7ead1574bf6931cc5751bd8d21ddad2109745e814cfc3dc11"), looks := false }, kinds := [], alts := [], laidByText := true, laidKinds := [.data], laidTests := true, laidLooks := .later }
def FnFindAllocCardSaid : Prop := Claim7.holds Tryd.pinned (.plain (OpenSpec.ofChange fnFindAllocSpec)) fnFindAllocCard

/-- THE TIED CARD OF 'laws.FnExactFind1'. -/
def fnExactFind1Card : Claim7 := { stood := { row := fnExactFind1Row, standIns := [], harness := (true, "f2e7d653563900c7ead1574bf6931cc5751bd8d21ddad2109745e814cfc3dc11"), looks := false }, kinds := [], alts := [], laidByText := true, laidKinds := [.data], laidTests := true, laidLooks := .later }
def FnExactFind1CardSaid : Prop := Claim7.holds Tryd.pinned (.plain (OpenSpec.ofChange fnExactFind1Spec)) fnExactFind1Card

/-- THE TIED CARD OF 'laws.FnFindSummary'. -/
def fnFindSummaryCard : Claim7 := { stood := { row := fnFindSummaryRow, standIns := [], harness := (true, "f2e7d653563900c7ead1574bf6931cc5751bd8d21ddad2109745e814cfc3dc11"), looks := false }, kinds := [], alts := [], laidByText := true, laidKinds := [.data], laidTests := true, laidLooks := .later }
def FnFindSummaryCardSaid : Prop := Claim7.holds Tryd.pinned (.plain (OpenSpec.ofChange fnFindSummarySpec)) fnFindSummaryCard

/-- THE TIED CARD OF 'laws.FnExactBitRange'. -/
def fnExactBitRangeCard : Claim7 := { stood := { row := fnExactBitRangeRow, standIns := [], harness := (true, "f2e7d653563900c7ead1574bf6931cc5751bd8d21ddad2109745e814cfc3dc11"), looks := false }, kinds := [], alts := [], laidByText := true, laidKinds := [.data], laidTests := true, laidLooks := .later }
def FnExactBitRangeCardSaid : Prop := Claim7.holds Tryd.pinned (.plain (OpenSpec.ofChange fnExactBitRangeSpec)) fnExactBitRangeCard

/-- THE TIED CARD OF 'laws.FnExactFindLarge'. -/
def fnExactFindLargeCard : Claim7 := { stood := { row := fnExactFindLargeRow, standIns := [], harness := (true, "f2e7d653563900c7ead1574bf6931cc5751bd8d21ddad2109745e814cfc3dc11"), looks := false }, kinds := [], alts := [], laidByText := true, laidKinds := [.data], laidTests := true, laidLooks := .later }
def FnExactFindLargeCardSaid : Prop := Claim7.holds Tryd.pinned (.plain (OpenSpec.ofChange fnExactFindLargeSpec)) fnExactFindLargeCard

/-- THE TIED CARD OF 'laws.FnExactFindSmall'. -/
def fnExactFindSmallCard : Claim7 := { stood := { row := fnExactFindSmallRow, standIns := [], harness := (true, "f2e7d653563900c7ead1574bf6931cc5751bd8d21ddad2109745e814cfc3dc11"), looks := false }, kinds := [], alts := [], laidByText := true, laidKinds := [.data], laidTests := true, laidLooks := .later }
def FnExactFindSmallCardSaid : Prop := Claim7.holds Tryd.pinned (.plain (OpenSpec.ofChange fnExactFindSmallSpec)) fnExactFindSmallCard

/-- THE TIED CARD OF 'laws.FnExactSummarize'. -/
def fnExactSummarizeCard : Claim7 := { stood := { row := fnExactSummarizeRow, standIns := [], harness := (true, "f2e7d653563900c7ead1574bf6931cc5751bd8d21ddad2109745e814cfc3dc11"), looks := false }, kinds := [], alts := [], laidByText := true, laidKinds := [.data], laidTests := true, laidLooks := .later }
def FnExactSummarizeCardSaid : Prop := Claim7.holds Tryd.pinned (.plain (OpenSpec.ofChange fnExactSummarizeSpec)) fnExactSummarizeCard

/-- THE TIED CARD OF 'laws.FnExactFind'. -/
def fnExactFindCard : Claim7 := { stood := { row := fnExactFindRow, standIns := [], harness := (true, "f2e7d653563900c7ead1574bf6931cc5751bd8d21ddad2109745e814cfc3dc11"), looks := false }, kinds := [], alts := [], laidByText := true, laidKinds := [.data], laidTests := true, laidLooks := .later }
def FnExactFindCardSaid : Prop := Claim7.holds Tryd.pinned (.plain (OpenSpec.ofChange fnExactFindSpec)) fnExactFindCard

/-- THE TIED CARD OF 'laws.FnFindLater'. -/
def fnFindLaterCard : Claim7 := { stood := { row := fnFindLaterRow, standIns := [], harness := (true, "f2e7d653563900c7ead1574bf6931cc5751bd8d21ddad2109745e814cfc3dc11"), looks := false }, kinds := [], alts := [], laidByText := true, laidKinds := [.data], laidTests := true, laidLooks := .later }
def FnFindLaterCardSaid : Prop := Claim7.holds Tryd.pinned (.plain (OpenSpec.ofChange fnFindLaterSpec)) fnFindLaterCard

/-- THE TIED CARD OF 'laws.FnFindLess'. -/
def fnFindLessCard : Claim7 := { stood := { row := fnFindLessRow, standIns := [], harness := (true, "f2e7d653563900c7ead1574bf6931cc5751bd8d21ddad2109745e814cfc3dc11"), looks := false }, kinds := [], alts := [], laidByText := true, laidKinds := [.data], laidTests := true, laidLooks := .later }
def FnFindLessCardSaid : Prop := Claim7.holds Tryd.pinned (.plain (OpenSpec.ofChange fnFindLessSpec)) fnFindLessCard

/-- THE TIED CARD OF 'laws.FnFindRoads'. -/
def fnFindRoadsCard : Claim7 := { stood := { row := fnFindRoadsRow, standIns := [], harness := (true, "f2e7d653563900c7ead1574bf6931cc5751bd8d21ddad2109745e814cfc3dc11"), looks := false }, kinds := [], alts := [], laidByText := true, laidKinds := [.data], laidTests := true, laidLooks := .later }
def FnFindRoadsCardSaid : Prop := Claim7.holds Tryd.pinned (.plain (OpenSpec.ofChange fnFindRoadsSpec)) fnFindRoadsCard

/-- THE TIED CARD OF 'laws.FnMergeChunks'. -/
def fnMergeChunksCard : Claim7 := { stood := { row := fnMergeChunksRow, standIns := [], harness := (true, "f2e7d653563900c7ead1574bf6931cc5751bd8d21ddad2109745e814cfc3dc11"), looks := false }, kinds := [], alts := [], laidByText := true, laidKinds := [.data], laidTests := true, laidLooks := .later }
def FnMergeChunksCardSaid : Prop := Claim7.holds Tryd.pinned (.plain (OpenSpec.ofChange fnMergeChunksSpec)) fnMergeChunksCard

/-- THE TIED CARD OF 'laws.FnMergeOne'. -/
def fnMergeOneCard : Claim7 := { stood := { row := fnMergeOneRow, standIns := [], harness := (true, "f2e7d653563900c7ead1574bf6931cc5751bd8d21ddad2109745e814cfc3dc11"), looks := false }, kinds := [], alts := [], laidByText := true, laidKinds := [.data], laidTests := true, laidLooks := .later }
def FnMergeOneCardSaid : Prop := Claim7.holds Tryd.pinned (.plain (OpenSpec.ofChange fnMergeOneSpec)) fnMergeOneCard

/-- THE SECOND FORM's CARD OF 'laws.FnSummaryEnds'. -/
def fnSummaryEndsUptoCard : Claim7 := { stood := { row := fnSummaryEndsUptoRow, standIns := [], harness := (true, "f2e7d653563900c7ead1574bf6931cc5751bd8d21ddad2109745e814cfc3dc11"), looks := false }, kinds := [], alts := [], laidByText := true, laidKinds := [.data], laidTests := true, laidLooks := .later }
def FnSummaryEndsUptoCardSaid : Prop := Claim7.holds Tryd.pinned (.plain (OpenSpec.upto fnSummaryEndsSpec)) fnSummaryEndsUptoCard

/-- THE SECOND FORM's CARD OF 'laws.FnFindAlloc'. -/
def fnFindAllocUptoCard : Claim7 := { stood := { row := fnFindAllocUptoRow, standIns := [], harness := (true, "f2e7d653563900c7ead1574bf6931cc5751bd8d21ddad2109745e814cfc3dc11"), looks := false }, kinds := [], alts := [], laidByText := true, laidKinds := [.data], laidTests := true, laidLooks := .later }
def FnFindAllocUptoCardSaid : Prop := Claim7.holds Tryd.pinned (.plain (OpenSpec.upto fnFindAllocSpec)) fnFindAllocUptoCard

/-- THE SECOND FORM's CARD OF 'laws.FnExactFind1'. -/
def fnExactFind1UptoCard : Claim7 := { stood := { row := fnExactFind1UptoRow, standIns := [], harness := (true, "f2e7d653563900c7ead1574bf6931cc5751bd8d21ddad2109745e814cfc3dc11"), looks := false }, kinds := [], alts := [], laidByText := true, laidKinds := [.data], laidTests := true, laidLooks := .later }
def FnExactFind1UptoCardSaid : Prop := Claim7.holds Tryd.pinned (.plain (OpenSpec.upto fnExactFind1Spec)) fnExactFind1UptoCard

/-- THE SECOND FORM's CARD OF 'laws.FnFindSummary'. -/
def fnFindSummaryUptoCard : Claim7 := { stood := { row := fnFindSummaryUptoRow, standIns := [], harness := (true, "f2e7d653563900c7ead1574bf6931cc5751bd8d21ddad2109745e814cfc3dc11"), looks := false }, kinds := [], alts := [], laidByText := true, laidKinds := [.data], laidTests := true, laidLooks := .later }
def FnFindSummaryUptoCardSaid : Prop := Claim7.holds Tryd.pinned (.plain (OpenSpec.upto fnFindSummarySpec)) fnFindSummaryUptoCard

/-- THE SECOND FORM's CARD OF 'laws.FnExactBitRange'. -/
def fnExactBitRangeUptoCard : Claim7 := { stood := { row := fnExactBitRangeUptoRow, standIns := [], harness := (true, "f2e7d653563900c7ead1574bf6931cc5751bd8d21ddad2109745e814cfc3dc11"), looks := false }, kinds := [], alts := [], laidByText := true, laidKinds := [.data], laidTests := true, laidLooks := .later }
def FnExactBitRangeUptoCardSaid : Prop := Claim7.holds Tryd.pinned (.plain (OpenSpec.upto fnExactBitRangeSpec)) fnExactBitRangeUptoCard

/-- THE SECOND FORM's CARD OF 'laws.FnExactFindLarge'. -/
def fnExactFindLargeUptoCard : Claim7 := { stood := { row := fnExactFindLargeUptoRow, standIns := [], harness := (true, "f2e7d653563900c7ead1574bf6931cc5751bd8d21ddad2109745e814cfc3dc11"), looks := false }, kinds := [], alts := [], laidByText := true, laidKinds := [.data], laidTests := true, laidLooks := .later }
def FnExactFindLargeUptoCardSaid : Prop := Claim7.holds Tryd.pinned (.plain (OpenSpec.upto fnExactFindLargeSpec)) fnExactFindLargeUptoCard

/-- THE SECOND FORM's CARD OF 'laws.FnExactFindSmall'. -/
def fnExactFindSmallUptoCard : Claim7 := { stood := { row := fnExactFindSmallUptoRow, standIns := [], harness := (true, "f2e7d653563900c7ead1574bf6931cc5751bd8d21ddad2109745e814cfc3dc11"), looks := false }, kinds := [], alts := [], laidByText := true, laidKinds := [.data], laidTests := true, laidLooks := .later }
def FnExactFindSmallUptoCardSaid : Prop := Claim7.holds Tryd.pinned (.plain (OpenSpec.upto fnExactFindSmallSpec)) fnExactFindSmallUptoCard

/-- THE SECOND FORM's CARD OF 'laws.FnExactSummarize'. -/
def fnExactSummarizeUptoCard : Claim7 := { stood := { row := fnExactSummarizeUptoRow, standIns := [], harness := (true, "f2e7d653563900c7ead1574bf6931cc5751bd8d21ddad2109745e814cfc3dc11"), looks := false }, kinds := [], alts := [], laidByText := true, laidKinds := [.data], laidTests := true, laidLooks := .later }
def FnExactSummarizeUptoCardSaid : Prop := Claim7.holds Tryd.pinned (.plain (OpenSpec.upto fnExactSummarizeSpec)) fnExactSummarizeUptoCard

/-- THE SECOND FORM's CARD OF 'laws.FnExactFind'. -/
def fnExactFindUptoCard : Claim7 := { stood := { row := fnExactFindUptoRow, standIns := [], harness := (true, "f2e7d653563900c7ead1574bf6931cc5751bd8d21ddad2109745e814cfc3dc11"), looks := false }, kinds := [], alts := [], laidByText := true, laidKinds := [.data], laidTests := true, laidLooks := .later }
def FnExactFindUptoCardSaid : Prop := Claim7.holds Tryd.pinned (.plain (OpenSpec.upto fnExactFindSpec)) fnExactFindUptoCard

/-- THE SECOND FORM's CARD OF 'laws.FnFindLater'. -/
def fnFindLaterUptoCard : Claim7 := { stood := { row := fnFindLaterUptoRow, standIns := [], harness := (true, "f2e7d653563900c7ead1574bf6931cc5751bd8d21ddad2109745e814cfc3dc11"), looks := false }, kinds := [], alts := [], laidByText := true, laidKinds := [.data], laidTests := true, laidLooks := .later }
def FnFindLaterUptoCardSaid : Prop := Claim7.holds Tryd.pinned (.plain (OpenSpec.upto fnFindLaterSpec)) fnFindLaterUptoCard

/-- THE SECOND FORM's CARD OF 'laws.FnFindLess'. -/
def fnFindLessUptoCard : Claim7 := { stood := { row := fnFindLessUptoRow, standIns := [], harness := (true, "f2e7d653563900c7ead1574bf6931cc5751bd8d21ddad2109745e814cfc3dc11"), looks := false }, kinds := [], alts := [], laidByText := true, laidKinds := [.data], laidTests := true, laidLooks := .later }
def FnFindLessUptoCardSaid : Prop := Claim7.holds Tryd.pinned (.plain (OpenSpec.upto fnFindLessSpec)) fnFindLessUptoCard

/-- THE SECOND FORM's CARD OF 'laws.FnFindRoads'. -/
def fnFindRoadsUptoCard : Claim7 := { stood := { row := fnFindRoadsUptoRow, standIns := [], harness := (true, "f2e7d653563900c7ead1574bf6931cc5751bd8d21ddad2109745e814cfc3dc11"), looks := false }, kinds := [], alts := [], laidByText := true, laidKinds := [.data], laidTests := true, laidLooks := .later }
def FnFindRoadsUptoCardSaid : Prop := Claim7.holds Tryd.pinned (.plain (OpenSpec.upto fnFindRoadsSpec)) fnFindRoadsUptoCard

/-- THE SECOND FORM's CARD OF 'laws.FnMergeChunks'. -/
def fnMergeChunksUptoCard : Claim7 := { stood := { row := fnMergeChunksUptoRow, standIns := [], harness := (true, "f2e7d653563900c7ead1574bf6931cc5751bd8d21ddad2109745e814cfc3dc11"), looks := false }, kinds := [], alts := [], laidByText := true, laidKinds := [.data], laidTests := true, laidLooks := .later }
def FnMergeChunksUptoCardSaid : Prop := Claim7.holds Tryd.pinned (.plain (OpenSpec.upto fnMergeChunksSpec)) fnMergeChunksUptoCard

/-- THE SECOND FORM's CARD OF 'laws.FnMergeOne'. -/
def fnMergeOneUptoCard : Claim7 := { stood := { row := fnMergeOneUptoRow, standIns := [], harness := (true, "f2e7d653563900c7ead1574bf6931cc5751bd8d21ddad2109745e814cfc3dc11"), looks := false }, kinds := [], alts := [], laidByText := true, laidKinds := [.data], laidTests := true, laidLooks := .later }
def FnMergeOneUptoCardSaid : Prop := Claim7.holds Tryd.pinned (.plain (OpenSpec.upto fnMergeOneSpec)) fnMergeOneUptoCard
end Rows
end Go.Proofs.YtkocngnpkfnblaaDoor

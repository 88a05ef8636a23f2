/-
  No cell of these rows narrows 'for every input' (looked for: loops, veiled, ifaces, maps, wideKeys, modest, calm, conditions, laid).
  DERIVED. THE GIVEN ROWS OF THIS SEAT. 12 by the template 'for every input the law returns true; each argument reads behind the call as it read before'; 0 by the template 'total and deterministic' (their statements: YtkocngnpkfnblaaTotals.lean).
  GIVEN WITH THE SEED: the statements are not yours to turn. If you find one false, say at which input.
  Laid BY PROGRAM, IN A SANDBOX (cutbox-rows.mjs): the forced cells as the released guide's own fill.sh prints them over the translation 718db4bde8aabd1b… (all of the seat's roots in one cut). By AI agents, Wed Nov 11 2026. No macro, syntax, notation, axiom, sorry.
-/
import Derived.Test.YtkocngnpkfnblaaChecked
import GoSem.Claim
import GoSem.ClaimJoined
import GoSem.ClaimMapViews
import Derived.JoinedTies
import Derived.KernelRfl
namespace Go.Proofs.Ytkocngnpkfnblaa
/- THE CELL 'sum', in the pinned program and in every row, IS THE sha256 OF THE DUMP (.gsa) THAT YtkocngnpkfnblaaProg.lean LOADS. Nothing in Lean hashes anything: it is a label: what it is worth is what the hold of that sum in a sandbox is worth. -/
noncomputable def Try.pinned : Pinned := { name := "ytkocngnpkfnblaa", sum := "718db4bde8aabd1be4f8c09c902d2a398c64f07bd3defe7b8ab72049b3a37e9b", checked := Try.checked }
namespace Rows
def none {H : Type} : Left H := { results := [], args := [] }

/-- 'laws.FnExactAllocPages': WHATEVER THE INPUT: true; the input reads as it did. -/
def fnExactAllocPagesSpec : ChangeSpec := { name := "fnExactAllocPages", fn := fun _ => fun
  | [d1, d2, d3] => { results := [.lit (.bool true)], args := [d1, d2, d3] }
  | _ => none }
def fnExactAllocPagesRow : OpenClaim := { program := "ytkocngnpkfnblaa", sum := "718db4bde8aabd1be4f8c09c902d2a398c64f07bd3defe7b8ab72049b3a37e9b", func := "loop.example/pub-pagebitmaps/laws.FnExactAllocPages", spec := "fnExactAllocPages", apart := false }
def FnExactAllocPagesSaid : Prop := fnExactAllocPagesRow.holds Try.pinned (OpenSpec.ofChange fnExactAllocPagesSpec)

/-- ITS FALSE NEIGHBOUR: 'it returns false'. Refute it at one input. -/
def fnExactAllocPagesWrong : ChangeSpec := { name := "fnExactAllocPages", fn := fun _ => fun
  | [d1, d2, d3] => { results := [.lit (.bool false)], args := [d1, d2, d3] }
  | _ => none }
def FnExactAllocPagesWrongFalsely : Prop := fnExactAllocPagesRow.holds Try.pinned (OpenSpec.ofChange fnExactAllocPagesWrong)

/-- 'laws.FnExactGet': WHATEVER THE INPUT: true; the input reads as it did. -/
def fnExactGetSpec : ChangeSpec := { name := "fnExactGet", fn := fun _ => fun
  | [d1, d2] => { results := [.lit (.bool true)], args := [d1, d2] }
  | _ => none }
def fnExactGetRow : OpenClaim := { program := "ytkocngnpkfnblaa", sum := "718db4bde8aabd1be4f8c09c902d2a398c64f07bd3defe7b8ab72049b3a37e9b", func := "loop.example/pub-pagebitmaps/laws.FnExactGet", spec := "fnExactGet", apart := false }
def FnExactGetSaid : Prop := fnExactGetRow.holds Try.pinned (OpenSpec.ofChange fnExactGetSpec)

/-- ITS FALSE NEIGHBOUR: 'it returns false'. Refute it at one input. -/
def fnExactGetWrong : ChangeSpec := { name := "fnExactGet", fn := fun _ => fun
  | [d1, d2] => { results := [.lit (.bool false)], args := [d1, d2] }
  | _ => none }
def FnExactGetWrongFalsely : Prop := fnExactGetRow.holds Try.pinned (OpenSpec.ofChange fnExactGetWrong)

/-- 'laws.FnExactClearRange': WHATEVER THE INPUT: true; the input reads as it did. -/
def fnExactClearRangeSpec : ChangeSpec := { name := "fnExactClearRange", fn := fun _ => fun
  | [d1, d2, d3] => { results := [.lit (.bool true)], args := [d1, d2, d3] }
  | _ => none }
def fnExactClearRangeRow : OpenClaim := { program := "ytkocngnpkfnblaa", sum := "718db4bde8aabd1be4f8c09c902d2a398c64f07bd3defe7b8ab72049b3a37e9b", func := "loop.example/pub-pagebitmaps/laws.FnExactClearRange", spec := "fnExactClearRange", apart := false }
def FnExactClearRangeSaid : Prop := fnExactClearRangeRow.holds Try.pinned (OpenSpec.ofChange fnExactClearRangeSpec)

/-- ITS FALSE NEIGHBOUR: 'it returns false'. Refute it at one input. -/
def fnExactClearRangeWrong : ChangeSpec := { name := "fnExactClearRange", fn := fun _ => fun
  | [d1, d2, d3] => { results := [.lit (.bool false)], args := [d1, d2, d3] }
  | _ => none }
def FnExactClearRangeWrongFalsely : Prop := fnExactClearRangeRow.holds Try.pinned (OpenSpec.ofChange fnExactClearRangeWrong)

/-- 'laws.FnExactSetRange': WHATEVER THE INPUT: true; the input reads as it did. -/
def fnExactSetRangeSpec : ChangeSpec := { name := "fnExactSetRange", fn := fun _ => fun
  | [d1, d2, d3] => { results := [.lit (.bool true)], args := [d1, d2, d3] }
  | _ => none }
def fnExactSetRangeRow : OpenClaim := { program := "ytkocngnpkfnblaa", sum := "718db4bde8aabd1be4f8c09c902d2a398c64f07bd3defe7b8ab72049b3a37e9b", func := "loop.example/pub-pagebitmaps/laws.FnExactSetRange", spec := "fnExactSetRange", apart := false }
def FnExactSetRangeSaid : Prop := fnExactSetRangeRow.holds Try.pinned (OpenSpec.ofChange fnExactSetRangeSpec)

/-- ITS FALSE NEIGHBOUR: 'it returns false'. Refute it at one input. -/
def fnExactSetRangeWrong : ChangeSpec := { name := "fnExactSetRange", fn := fun _ => fun
  | [d1, d2, d3] => { results := [.lit (.bool false)], args := [d1, d2, d3] }
  | _ => none }
def FnExactSetRangeWrongFalsely : Prop := fnExactSetRangeRow.holds Try.pinned (OpenSpec.ofChange fnExactSetRangeWrong)

/-- 'laws.FnExactFreeRange': WHATEVER THE INPUT: true; the input reads as it did. -/
def fnExactFreeRangeSpec : ChangeSpec := { name := "fnExactFreeRange", fn := fun _ => fun
  | [d1, d2, d3] => { results := [.lit (.bool true)], args := [d1, d2, d3] }
  | _ => none }
def fnExactFreeRangeRow : OpenClaim := { program := "ytkocngnpkfnblaa", sum := "718db4bde8aabd1be4f8c09c902d2a398c64f07bd3defe7b8ab72049b3a37e9b", func := "loop.example/pub-pagebitmaps/laws.FnExactFreeRange", spec := "fnExactFreeRange", apart := false }
def FnExactFreeRangeSaid : Prop := fnExactFreeRangeRow.holds Try.pinned (OpenSpec.ofChange fnExactFreeRangeSpec)

/-- ITS FALSE NEIGHBOUR: 'it returns false'. Refute it at one input. -/
def fnExactFreeRangeWrong : ChangeSpec := { name := "fnExactFreeRange", fn := fun _ => fun
  | [d1, d2, d3] => { results := [.lit (.bool false)], args := [d1, d2, d3] }
  | _ => none }
def FnExactFreeRangeWrongFalsely : Prop := fnExactFreeRangeRow.holds Try.pinned (OpenSpec.ofChange fnExactFreeRangeWrong)

/-- 'laws.FnExactAllocRange': WHATEVER THE INPUT: true; the input reads as it did. -/
def fnExactAllocRangeSpec : ChangeSpec := { name := "fnExactAllocRange", fn := fun _ => fun
  | [d1, d2, d3] => { results := [.lit (.bool true)], args := [d1, d2, d3] }
  | _ => none }
def fnExactAllocRangeRow : OpenClaim := { program := "ytkocngnpkfnblaa", sum := "718db4bde8aabd1be4f8c09c902d2a398c64f07bd3defe7b8ab72049b3a37e9b", func := "loop.example/pub-pagebitmaps/laws.FnExactAllocRange", spec := "fnExactAllocRange", apart := false }
def FnExactAllocRangeSaid : Prop := fnExactAllocRangeRow.holds Try.pinned (OpenSpec.ofChange fnExactAllocRangeSpec)

/-- ITS FALSE NEIGHBOUR: 'it returns false'. Refute it at one input. -/
def fnExactAllocRangeWrong : ChangeSpec := { name := "fnExactAllocRange", fn := fun _ => fun
  | [d1, d2, d3] => { results := [.lit (.bool false)], args := [d1, d2, d3] }
  | _ => none }
def FnExactAllocRangeWrongFalsely : Prop := fnExactAllocRangeRow.holds Try.pinned (OpenSpec.ofChange fnExactAllocRangeWrong)

/-- 'laws.FnExactPopCount': WHATEVER THE INPUT: true; the input reads as it did. -/
def fnExactPopCountSpec : ChangeSpec := { name := "fnExactPopCount", fn := fun _ => fun
  | [d1, d2, d3] => { results := [.lit (.bool true)], args := [d1, d2, d3] }
  | _ => none }
def fnExactPopCountRow : OpenClaim := { program := "ytkocngnpkfnblaa", sum := "718db4bde8aabd1be4f8c09c902d2a398c64f07bd3defe7b8ab72049b3a37e9b", func := "loop.example/pub-pagebitmaps/laws.FnExactPopCount", spec := "fnExactPopCount", apart := false }
def FnExactPopCountSaid : Prop := fnExactPopCountRow.holds Try.pinned (OpenSpec.ofChange fnExactPopCountSpec)

/-- ITS FALSE NEIGHBOUR: 'it returns false'. Refute it at one input. -/
def fnExactPopCountWrong : ChangeSpec := { name := "fnExactPopCount", fn := fun _ => fun
  | [d1, d2, d3] => { results := [.lit (.bool false)], args := [d1, d2, d3] }
  | _ => none }
def FnExactPopCountWrongFalsely : Prop := fnExactPopCountRow.holds Try.pinned (OpenSpec.ofChange fnExactPopCountWrong)

/-- 'laws.FnExactPack': WHATEVER THE INPUT: true; the input reads as it did. -/
def fnExactPackSpec : ChangeSpec := { name := "fnExactPack", fn := fun _ => fun
  | [d1, d2, d3, d4] => { results := [.lit (.bool true)], args := [d1, d2, d3, d4] }
  | _ => none }
def fnExactPackRow : OpenClaim := { program := "ytkocngnpkfnblaa", sum := "718db4bde8aabd1be4f8c09c902d2a398c64f07bd3defe7b8ab72049b3a37e9b", func := "loop.example/pub-pagebitmaps/laws.FnExactPack", spec := "fnExactPack", apart := false }
def FnExactPackSaid : Prop := fnExactPackRow.holds Try.pinned (OpenSpec.ofChange fnExactPackSpec)

/-- ITS FALSE NEIGHBOUR: 'it returns false'. Refute it at one input. -/
def fnExactPackWrong : ChangeSpec := { name := "fnExactPack", fn := fun _ => fun
  | [d1, d2, d3, d4] => { results := [.lit (.bool false)], args := [d1, d2, d3, d4] }
  | _ => none }
def FnExactPackWrongFalsely : Prop := fnExactPackRow.holds Try.pinned (OpenSpec.ofChange fnExactPackWrong)

/-- 'laws.FnExactMerge': WHATEVER THE INPUT: true; the input reads as it did. -/
def fnExactMergeSpec : ChangeSpec := { name := "fnExactMerge", fn := fun _ => fun
  | [d1, d2, d3] => { results := [.lit (.bool true)], args := [d1, d2, d3] }
  | _ => none }
def fnExactMergeRow : OpenClaim := { program := "ytkocngnpkfnblaa", sum := "718db4bde8aabd1be4f8c09c902d2a398c64f07bd3defe7b8ab72049b3a37e9b", func := "loop.example/pub-pagebitmaps/laws.FnExactMerge", spec := "fnExactMerge", apart := false }
def FnExactMergeSaid : Prop := fnExactMergeRow.holds Try.pinned (OpenSpec.ofChange fnExactMergeSpec)

/-- ITS FALSE NEIGHBOUR: 'it returns false'. Refute it at one input. -/
def fnExactMergeWrong : ChangeSpec := { name := "fnExactMerge", fn := fun _ => fun
  | [d1, d2, d3] => { results := [.lit (.bool false)], args := [d1, d2, d3] }
  | _ => none }
def FnExactMergeWrongFalsely : Prop := fnExactMergeRow.holds Try.pinned (OpenSpec.ofChange fnExactMergeWrong)

/-- 'laws.FnMergeTwice': WHATEVER THE INPUT: true; the input reads as it did. -/
def fnMergeTwiceSpec : ChangeSpec := { name := "fnMergeTwice", fn := fun _ => fun
  | [d1, d2, d3] => { results := [.lit (.bool true)], args := [d1, d2, d3] }
  | _ => none }
def fnMergeTwiceRow : OpenClaim := { program := "ytkocngnpkfnblaa", sum := "718db4bde8aabd1be4f8c09c902d2a398c64f07bd3defe7b8ab72049b3a37e9b", func := "loop.example/pub-pagebitmaps/laws.FnMergeTwice", spec := "fnMergeTwice", apart := false }
def FnMergeTwiceSaid : Prop := fnMergeTwiceRow.holds Try.pinned (OpenSpec.ofChange fnMergeTwiceSpec)

/-- ITS FALSE NEIGHBOUR: 'it returns false'. Refute it at one input. -/
def fnMergeTwiceWrong : ChangeSpec := { name := "fnMergeTwice", fn := fun _ => fun
  | [d1, d2, d3] => { results := [.lit (.bool false)], args := [d1, d2, d3] }
  | _ => none }
def FnMergeTwiceWrongFalsely : Prop := fnMergeTwiceRow.holds Try.pinned (OpenSpec.ofChange fnMergeTwiceWrong)

/-- 'laws.FnRangesJoin': WHATEVER THE INPUT: true; the input reads as it did. -/
def fnRangesJoinSpec : ChangeSpec := { name := "fnRangesJoin", fn := fun _ => fun
  | [d1, d2, d3, d4] => { results := [.lit (.bool true)], args := [d1, d2, d3, d4] }
  | _ => none }
def fnRangesJoinRow : OpenClaim := { program := "ytkocngnpkfnblaa", sum := "718db4bde8aabd1be4f8c09c902d2a398c64f07bd3defe7b8ab72049b3a37e9b", func := "loop.example/pub-pagebitmaps/laws.FnRangesJoin", spec := "fnRangesJoin", apart := false }
def FnRangesJoinSaid : Prop := fnRangesJoinRow.holds Try.pinned (OpenSpec.ofChange fnRangesJoinSpec)

/-- ITS FALSE NEIGHBOUR: 'it returns false'. Refute it at one input. -/
def fnRangesJoinWrong : ChangeSpec := { name := "fnRangesJoin", fn := fun _ => fun
  | [d1, d2, d3, d4] => { results := [.lit (.bool false)], args := [d1, d2, d3, d4] }
  | _ => none }
def FnRangesJoinWrongFalsely : Prop := fnRangesJoinRow.holds Try.pinned (OpenSpec.ofChange fnRangesJoinWrong)

/-- 'laws.FnSetClear': WHATEVER THE INPUT: true; the input reads as it did. -/
def fnSetClearSpec : ChangeSpec := { name := "fnSetClear", fn := fun _ => fun
  | [d1, d2, d3] => { results := [.lit (.bool true)], args := [d1, d2, d3] }
  | _ => none }
def fnSetClearRow : OpenClaim := { program := "ytkocngnpkfnblaa", sum := "718db4bde8aabd1be4f8c09c902d2a398c64f07bd3defe7b8ab72049b3a37e9b", func := "loop.example/pub-pagebitmaps/laws.FnSetClear", spec := "fnSetClear", apart := false }
def FnSetClearSaid : Prop := fnSetClearRow.holds Try.pinned (OpenSpec.ofChange fnSetClearSpec)

/-- ITS FALSE NEIGHBOUR: 'it returns false'. Refute it at one input. -/
def fnSetClearWrong : ChangeSpec := { name := "fnSetClear", fn := fun _ => fun
  | [d1, d2, d3] => { results := [.lit (.bool false)], args := [d1, d2, d3] }
  | _ => none }
def FnSetClearWrongFalsely : Prop := fnSetClearRow.holds Try.pinned (OpenSpec.ofChange fnSetClearWrong)

/- THE SECOND FORM. 'bulk': how many values and letters a reading holds, each counted each time it is reached (what is shared counts as often as it is met; a slice's spare places count too). A statement '..UptoSaid' is the law's where the arguments, and the package variables that the reading takes, are together of bulk at most 1048576: NARROWER than '..Said'. Prove '..Said' where nothing that the law and all that it calls make is longer than what came in: it says more and counts as full. Else prove '..UptoSaid'. A law counts once. -/
mutual
def uptoBulk {H : Type} : DataW H → Nat
  | .lit (.string bytes) => bytes.length + 1
  | .lit _ => 1
  | .nil => 1
  | .ptr d => uptoBulk d + 1
  | .slice elems spare => uptoBulkAll elems + uptoBulkAll spare + 1
  | .agg parts => uptoBulkAll parts + 1
  | .iface _ d => uptoBulk d + 1
  | .map entries => uptoBulkEntries entries + 1
  | .held _ => 1
def uptoBulkAll {H : Type} : List (DataW H) → Nat
  | [] => 0
  | d :: r => uptoBulk d + uptoBulkAll r
def uptoBulkEntries {H : Type} : List (Lit × DataW H) → Nat
  | [] => 0
  | x :: r => uptoBulkEntry x + uptoBulkEntries r
def uptoBulkEntry {H : Type} : Lit × DataW H → Nat
  | (.string bytes, d) => bytes.length + uptoBulk d + 1
  | (_, d) => uptoBulk d + 1
 end
def uptoSmall : (H : Type) → List (DataW H) → Bool := fun _ ds => decide (uptoBulkAll ds ≤ 1048576)
def OpenSpec.upto (s : _root_.Go.ChangeSpec) : _root_.Go.OpenSpec := { _root_.Go.OpenSpec.ofChange s with cond := some uptoSmall }

/-- 'laws.FnExactAllocPages', WHERE WHAT IT READS IS OF BULK AT MOST 1048576: true; the input reads as it did. -/
def fnExactAllocPagesUptoRow : OpenClaim := { program := "ytkocngnpkfnblaa", sum := "718db4bde8aabd1be4f8c09c902d2a398c64f07bd3defe7b8ab72049b3a37e9b", func := "loop.example/pub-pagebitmaps/laws.FnExactAllocPages", spec := "fnExactAllocPages", apart := false, narrowed := true }
def FnExactAllocPagesUptoSaid : Prop := fnExactAllocPagesUptoRow.holds Try.pinned (OpenSpec.upto fnExactAllocPagesSpec)

/-- 'laws.FnExactGet', WHERE WHAT IT READS IS OF BULK AT MOST 1048576: true; the input reads as it did. -/
def fnExactGetUptoRow : OpenClaim := { program := "ytkocngnpkfnblaa", sum := "718db4bde8aabd1be4f8c09c902d2a398c64f07bd3defe7b8ab72049b3a37e9b", func := "loop.example/pub-pagebitmaps/laws.FnExactGet", spec := "fnExactGet", apart := false, narrowed := true }
def FnExactGetUptoSaid : Prop := fnExactGetUptoRow.holds Try.pinned (OpenSpec.upto fnExactGetSpec)

/-- 'laws.FnExactClearRange', WHERE WHAT IT READS IS OF BULK AT MOST 1048576: true; the input reads as it did. -/
def fnExactClearRangeUptoRow : OpenClaim := { program := "ytkocngnpkfnblaa", sum := "718db4bde8aabd1be4f8c09c902d2a398c64f07bd3defe7b8ab72049b3a37e9b", func := "loop.example/pub-pagebitmaps/laws.FnExactClearRange", spec := "fnExactClearRange", apart := false, narrowed := true }
def FnExactClearRangeUptoSaid : Prop := fnExactClearRangeUptoRow.holds Try.pinned (OpenSpec.upto fnExactClearRangeSpec)

/-- 'laws.FnExactSetRange', WHERE WHAT IT READS IS OF BULK AT MOST 1048576: true; the input reads as it did. -/
def fnExactSetRangeUptoRow : OpenClaim := { program := "ytkocngnpkfnblaa", sum := "718db4bde8aabd1be4f8c09c902d2a398c64f07bd3defe7b8ab72049b3a37e9b", func := "loop.example/pub-pagebitmaps/laws.FnExactSetRange", spec := "fnExactSetRange", apart := false, narrowed := true }
def FnExactSetRangeUptoSaid : Prop := fnExactSetRangeUptoRow.holds Try.pinned (OpenSpec.upto fnExactSetRangeSpec)

/-- 'laws.FnExactFreeRange', WHERE WHAT IT READS IS OF BULK AT MOST 1048576: true; the input reads as it did. -/
def fnExactFreeRangeUptoRow : OpenClaim := { program := "ytkocngnpkfnblaa", sum := "718db4bde8aabd1be4f8c09c902d2a398c64f07bd3defe7b8ab72049b3a37e9b", func := "loop.example/pub-pagebitmaps/laws.FnExactFreeRange", spec := "fnExactFreeRange", apart := false, narrowed := true }
def FnExactFreeRangeUptoSaid : Prop := fnExactFreeRangeUptoRow.holds Try.pinned (OpenSpec.upto fnExactFreeRangeSpec)

/-- 'laws.FnExactAllocRange', WHERE WHAT IT READS IS OF BULK AT MOST 1048576: true; the input reads as it did. -/
def fnExactAllocRangeUptoRow : OpenClaim := { program := "ytkocngnpkfnblaa", sum := "718db4bde8aabd1be4f8c09c902d2a398c64f07bd3defe7b8ab72049b3a37e9b", func := "loop.example/pub-pagebitmaps/laws.FnExactAllocRange", spec := "fnExactAllocRange", apart := false, narrowed := true }
def FnExactAllocRangeUptoSaid : Prop := fnExactAllocRangeUptoRow.holds Try.pinned (OpenSpec.upto fnExactAllocRangeSpec)

/-- 'laws.FnExactPopCount', WHERE WHAT IT READS IS OF BULK AT MOST 1048576: true; the input reads as it did. -/
def fnExactPopCountUptoRow : OpenClaim := { program := "ytkocngnpkfnblaa", sum := "718db4bde8aabd1be4f8c09c902d2a398c64f07bd3defe7b8ab72049b3a37e9b", func := "loop.example/pub-pagebitmaps/laws.FnExactPopCount", spec := "fnExactPopCount", apart := false, narrowed := true }
def FnExactPopCountUptoSaid : Prop := fnExactPopCountUptoRow.holds Try.pinned (OpenSpec.upto fnExactPopCountSpec)

/-- 'laws.FnExactPack', WHERE WHAT IT READS IS OF BULK AT MOST 1048576: true; the input reads as it did. -/
def fnExactPackUptoRow : OpenClaim := { program := "ytkocngnpkfnblaa", sum := "718db4bde8aabd1be4f8c09c902d2a398c64f07bd3defe7b8ab72049b3a37e9b", func := "loop.example/pub-pagebitmaps/laws.FnExactPack", spec := "fnExactPack", apart := false, narrowed := true }
def FnExactPackUptoSaid : Prop := fnExactPackUptoRow.holds Try.pinned (OpenSpec.upto fnExactPackSpec)

/-- 'laws.FnExactMerge', WHERE WHAT IT READS IS OF BULK AT MOST 1048576: true; the input reads as it did. -/
def fnExactMergeUptoRow : OpenClaim := { program := "ytkocngnpkfnblaa", sum := "718db4bde8aabd1be4f8c09c902d2a398c64f07bd3defe7b8ab72049b3a37e9b", func := "loop.example/pub-pagebitmaps/laws.FnExactMerge", spec := "fnExactMerge", apart := false, narrowed := true }
def FnExactMergeUptoSaid : Prop := fnExactMergeUptoRow.holds Try.pinned (OpenSpec.upto fnExactMergeSpec)

/-- 'laws.FnMergeTwice', WHERE WHAT IT READS IS OF BULK AT MOST 1048576: true; the input reads as it did. -/
def fnMergeTwiceUptoRow : OpenClaim := { program := "ytkocngnpkfnblaa", sum := "718db4bde8aabd1be4f8c09c902d2a398c64f07bd3defe7b8ab72049b3a37e9b", func := "loop.example/pub-pagebitmaps/laws.FnMergeTwice", spec := "fnMergeTwice", apart := false, narrowed := true }
def FnMergeTwiceUptoSaid : Prop := fnMergeTwiceUptoRow.holds Try.pinned (OpenSpec.upto fnMergeTwiceSpec)

/-- 'laws.FnRangesJoin', WHERE WHAT IT READS IS OF BULK AT MOST 1048576: true; the input reads as it did. -/
def fnRangesJoinUptoRow : OpenClaim := { program := "ytkocngnpkfnblaa", sum := "718db4bde8aabd1be4f8c09c902d2a398c64f07bd3defe7b8ab72049b3a37e9b", func := "loop.example/pub-pagebitmaps/laws.FnRangesJoin", spec := "fnRangesJoin", apart := false, narrowed := true }
def FnRangesJoinUptoSaid : Prop := fnRangesJoinUptoRow.holds Try.pinned (OpenSpec.upto fnRangesJoinSpec)

/-- 'laws.FnSetClear', WHERE WHAT IT READS IS OF BULK AT MOST 1048576: true; the input reads as it did. -/
def fnSetClearUptoRow : OpenClaim := { program := "ytkocngnpkfnblaa", sum := "718db4bde8aabd1be4f8c09c902d2a398c64f07bd3defe7b8ab72049b3a37e9b", func := "loop.example/pub-pagebitmaps/laws.FnSetClear", spec := "fnSetClear", apart := false, narrowed := true }
def FnSetClearUptoSaid : Prop := fnSetClearUptoRow.holds Try.pinned (OpenSpec.upto fnSetClearSpec)

end Rows
end Go.Proofs.Ytkocngnpkfnblaa

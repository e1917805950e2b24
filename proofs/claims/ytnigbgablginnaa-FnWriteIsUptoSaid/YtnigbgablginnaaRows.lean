/-
  No cell of these rows narrows 'for every input' (looked for: loops, veiled, ifaces, maps, wideKeys, modest, calm, conditions, laid).
  DERIVED. THE GIVEN ROWS OF THIS SEAT. 15 by the template 'for every input the law returns true; each argument reads behind the call as it read before'; 0 by the template 'total and deterministic' (their statements: YtnigbgablginnaaTotals.lean).
  GIVEN WITH THE SEED: the statements are not yours to turn. If you find one false, say at which input.
  Laid BY PROGRAM, IN A SANDBOX (cutbox-rows.mjs): the forced cells as the released guide's own fill.sh prints them over the translation 500a6c8bdcb4c71a… (all of the seat's roots in one cut). By AI agents, Wed Nov 11 2026. No macro, syntax, notation, axiom, sorry.
-/
import Derived.Test.YtnigbgablginnaaChecked
import GoSem.Claim
import GoSem.ClaimJoined
import GoSem.ClaimMapViews
import Derived.JoinedTies
import Derived.KernelRfl
namespace Go.Proofs.Ytnigbgablginnaa
/- THE CELL 'sum', in the pinned program and in every row, IS THE sha256 OF THE DUMP (.gsa) THAT YtnigbgablginnaaProg.lean LOADS. Nothing in Lean hashes anything: it is a label: what it is worth is what the hold of that sum in a sandbox is worth. -/
noncomputable def Try.pinned : Pinned := { name := "ytnigbgablginnaa", sum := "500a6c8bdcb4c71a4328e375becec819e74f27d0acf501ce22e5adbe0a0ae17e", checked := Try.checked }
namespace Rows
def none {H : Type} : Left H := { results := [], args := [] }

/-- 'laws.FnTurned': WHATEVER THE INPUT: true; the input reads as it did. -/
def fnTurnedSpec : ChangeSpec := { name := "fnTurned", fn := fun _ => fun
  | [d1, d2, d3] => { results := [.lit (.bool true)], args := [d1, d2, d3] }
  | _ => none }
def fnTurnedRow : OpenClaim := { program := "ytnigbgablginnaa", sum := "500a6c8bdcb4c71a4328e375becec819e74f27d0acf501ce22e5adbe0a0ae17e", func := "loop.example/pub-g01460/laws.FnTurned", spec := "fnTurned", unfollowed := true, recurses := true, apart := false }
def FnTurnedSaid : Prop := fnTurnedRow.holds Try.pinned (OpenSpec.ofChange fnTurnedSpec)

/-- ITS FALSE NEIGHBOUR: 'it returns false'. Refute it at one input. -/
def fnTurnedWrong : ChangeSpec := { name := "fnTurned", fn := fun _ => fun
  | [d1, d2, d3] => { results := [.lit (.bool false)], args := [d1, d2, d3] }
  | _ => none }
def FnTurnedWrongFalsely : Prop := fnTurnedRow.holds Try.pinned (OpenSpec.ofChange fnTurnedWrong)

/-- 'laws.FnGenericSame': WHATEVER THE INPUT: true; the input reads as it did. -/
def fnGenericSameSpec : ChangeSpec := { name := "fnGenericSame", fn := fun _ => fun
  | [d1, d2] => { results := [.lit (.bool true)], args := [d1, d2] }
  | _ => none }
def fnGenericSameRow : OpenClaim := { program := "ytnigbgablginnaa", sum := "500a6c8bdcb4c71a4328e375becec819e74f27d0acf501ce22e5adbe0a0ae17e", func := "loop.example/pub-g01460/laws.FnGenericSame", spec := "fnGenericSame", unfollowed := true, recurses := true, apart := false }
def FnGenericSameSaid : Prop := fnGenericSameRow.holds Try.pinned (OpenSpec.ofChange fnGenericSameSpec)

/-- ITS FALSE NEIGHBOUR: 'it returns false'. Refute it at one input. -/
def fnGenericSameWrong : ChangeSpec := { name := "fnGenericSame", fn := fun _ => fun
  | [d1, d2] => { results := [.lit (.bool false)], args := [d1, d2] }
  | _ => none }
def FnGenericSameWrongFalsely : Prop := fnGenericSameRow.holds Try.pinned (OpenSpec.ofChange fnGenericSameWrong)

/-- 'laws.FnSingleStep': WHATEVER THE INPUT: true; the input reads as it did. -/
def fnSingleStepSpec : ChangeSpec := { name := "fnSingleStep", fn := fun _ => fun
  | [d1, d2, d3] => { results := [.lit (.bool true)], args := [d1, d2, d3] }
  | _ => none }
def fnSingleStepRow : OpenClaim := { program := "ytnigbgablginnaa", sum := "500a6c8bdcb4c71a4328e375becec819e74f27d0acf501ce22e5adbe0a0ae17e", func := "loop.example/pub-g01460/laws.FnSingleStep", spec := "fnSingleStep", inPlace := ["internal/abi.NoEscape", "internal/bytealg.MakeNoZero"], apart := false }
def FnSingleStepSaid : Prop := fnSingleStepRow.holds Try.pinned (OpenSpec.ofChange fnSingleStepSpec)

/-- ITS FALSE NEIGHBOUR: 'it returns false'. Refute it at one input. -/
def fnSingleStepWrong : ChangeSpec := { name := "fnSingleStep", fn := fun _ => fun
  | [d1, d2, d3] => { results := [.lit (.bool false)], args := [d1, d2, d3] }
  | _ => none }
def FnSingleStepWrongFalsely : Prop := fnSingleStepRow.holds Try.pinned (OpenSpec.ofChange fnSingleStepWrong)

/-- 'laws.FnEach': WHATEVER THE INPUT: true; the input reads as it did. -/
def fnEachSpec : ChangeSpec := { name := "fnEach", fn := fun _ => fun
  | [d1, d2] => { results := [.lit (.bool true)], args := [d1, d2] }
  | _ => none }
def fnEachRow : OpenClaim := { program := "ytnigbgablginnaa", sum := "500a6c8bdcb4c71a4328e375becec819e74f27d0acf501ce22e5adbe0a0ae17e", func := "loop.example/pub-g01460/laws.FnEach", spec := "fnEach", unfollowed := true, recurses := true, apart := false }
def FnEachSaid : Prop := fnEachRow.holds Try.pinned (OpenSpec.ofChange fnEachSpec)

/-- ITS FALSE NEIGHBOUR: 'it returns false'. Refute it at one input. -/
def fnEachWrong : ChangeSpec := { name := "fnEach", fn := fun _ => fun
  | [d1, d2] => { results := [.lit (.bool false)], args := [d1, d2] }
  | _ => none }
def FnEachWrongFalsely : Prop := fnEachRow.holds Try.pinned (OpenSpec.ofChange fnEachWrong)

/-- 'laws.FnLookupBehind': WHATEVER THE INPUT: true; the input reads as it did. -/
def fnLookupBehindSpec : ChangeSpec := { name := "fnLookupBehind", fn := fun _ => fun
  | [d1, d2, d3] => { results := [.lit (.bool true)], args := [d1, d2, d3] }
  | _ => none }
def fnLookupBehindRow : OpenClaim := { program := "ytnigbgablginnaa", sum := "500a6c8bdcb4c71a4328e375becec819e74f27d0acf501ce22e5adbe0a0ae17e", func := "loop.example/pub-g01460/laws.FnLookupBehind", spec := "fnLookupBehind", recurses := true, apart := false }
def FnLookupBehindSaid : Prop := fnLookupBehindRow.holds Try.pinned (OpenSpec.ofChange fnLookupBehindSpec)

/-- ITS FALSE NEIGHBOUR: 'it returns false'. Refute it at one input. -/
def fnLookupBehindWrong : ChangeSpec := { name := "fnLookupBehind", fn := fun _ => fun
  | [d1, d2, d3] => { results := [.lit (.bool false)], args := [d1, d2, d3] }
  | _ => none }
def FnLookupBehindWrongFalsely : Prop := fnLookupBehindRow.holds Try.pinned (OpenSpec.ofChange fnLookupBehindWrong)

/-- 'laws.FnKind': WHATEVER THE INPUT: true; the input reads as it did. -/
def fnKindSpec : ChangeSpec := { name := "fnKind", fn := fun _ => fun
  | [d] => { results := [.lit (.bool true)], args := [d] }
  | _ => none }
def fnKindRow : OpenClaim := { program := "ytnigbgablginnaa", sum := "500a6c8bdcb4c71a4328e375becec819e74f27d0acf501ce22e5adbe0a0ae17e", func := "loop.example/pub-g01460/laws.FnKind", spec := "fnKind", recurses := true, apart := false }
def FnKindSaid : Prop := fnKindRow.holds Try.pinned (OpenSpec.ofChange fnKindSpec)

/-- ITS FALSE NEIGHBOUR: 'it returns false'. Refute it at one input. -/
def fnKindWrong : ChangeSpec := { name := "fnKind", fn := fun _ => fun
  | [d] => { results := [.lit (.bool false)], args := [d] }
  | _ => none }
def FnKindWrongFalsely : Prop := fnKindRow.holds Try.pinned (OpenSpec.ofChange fnKindWrong)

/-- 'laws.FnWriteIs': WHATEVER THE INPUT: true; the input reads as it did. -/
def fnWriteIsSpec : ChangeSpec := { name := "fnWriteIs", fn := fun _ => fun
  | [d1, d2] => { results := [.lit (.bool true)], args := [d1, d2] }
  | _ => none }
def fnWriteIsRow : OpenClaim := { program := "ytnigbgablginnaa", sum := "500a6c8bdcb4c71a4328e375becec819e74f27d0acf501ce22e5adbe0a0ae17e", func := "loop.example/pub-g01460/laws.FnWriteIs", spec := "fnWriteIs", unfollowed := true, recurses := true, apart := false }
def FnWriteIsSaid : Prop := fnWriteIsRow.holds Try.pinned (OpenSpec.ofChange fnWriteIsSpec)

/-- ITS FALSE NEIGHBOUR: 'it returns false'. Refute it at one input. -/
def fnWriteIsWrong : ChangeSpec := { name := "fnWriteIs", fn := fun _ => fun
  | [d1, d2] => { results := [.lit (.bool false)], args := [d1, d2] }
  | _ => none }
def FnWriteIsWrongFalsely : Prop := fnWriteIsRow.holds Try.pinned (OpenSpec.ofChange fnWriteIsWrong)

/-- 'laws.FnAhead': WHATEVER THE INPUT: true; the input reads as it did. -/
def fnAheadSpec : ChangeSpec := { name := "fnAhead", fn := fun _ => fun
  | [d1, d2] => { results := [.lit (.bool true)], args := [d1, d2] }
  | _ => none }
def fnAheadRow : OpenClaim := { program := "ytnigbgablginnaa", sum := "500a6c8bdcb4c71a4328e375becec819e74f27d0acf501ce22e5adbe0a0ae17e", func := "loop.example/pub-g01460/laws.FnAhead", spec := "fnAhead", unfollowed := true, recurses := true, apart := false }
def FnAheadSaid : Prop := fnAheadRow.holds Try.pinned (OpenSpec.ofChange fnAheadSpec)

/-- ITS FALSE NEIGHBOUR: 'it returns false'. Refute it at one input. -/
def fnAheadWrong : ChangeSpec := { name := "fnAhead", fn := fun _ => fun
  | [d1, d2] => { results := [.lit (.bool false)], args := [d1, d2] }
  | _ => none }
def FnAheadWrongFalsely : Prop := fnAheadRow.holds Try.pinned (OpenSpec.ofChange fnAheadWrong)

/-- 'laws.FnByteTexts': WHATEVER THE INPUT: true; the input reads as it did. -/
def fnByteTextsSpec : ChangeSpec := { name := "fnByteTexts", fn := fun _ => fun
  | [d1, d2, d3] => { results := [.lit (.bool true)], args := [d1, d2, d3] }
  | _ => none }
def fnByteTextsRow : OpenClaim := { program := "ytnigbgablginnaa", sum := "500a6c8bdcb4c71a4328e375becec819e74f27d0acf501ce22e5adbe0a0ae17e", func := "loop.example/pub-g01460/laws.FnByteTexts", spec := "fnByteTexts", unfollowed := true, recurses := true, apart := false }
def FnByteTextsSaid : Prop := fnByteTextsRow.holds Try.pinned (OpenSpec.ofChange fnByteTextsSpec)

/-- ITS FALSE NEIGHBOUR: 'it returns false'. Refute it at one input. -/
def fnByteTextsWrong : ChangeSpec := { name := "fnByteTexts", fn := fun _ => fun
  | [d1, d2, d3] => { results := [.lit (.bool false)], args := [d1, d2, d3] }
  | _ => none }
def FnByteTextsWrongFalsely : Prop := fnByteTextsRow.holds Try.pinned (OpenSpec.ofChange fnByteTextsWrong)

/-- 'laws.FnFirst': WHATEVER THE INPUT: true; the input reads as it did. -/
def fnFirstSpec : ChangeSpec := { name := "fnFirst", fn := fun _ => fun
  | [d1, d2, d3, d4] => { results := [.lit (.bool true)], args := [d1, d2, d3, d4] }
  | _ => none }
def fnFirstRow : OpenClaim := { program := "ytnigbgablginnaa", sum := "500a6c8bdcb4c71a4328e375becec819e74f27d0acf501ce22e5adbe0a0ae17e", func := "loop.example/pub-g01460/laws.FnFirst", spec := "fnFirst", unfollowed := true, recurses := true, apart := false }
def FnFirstSaid : Prop := fnFirstRow.holds Try.pinned (OpenSpec.ofChange fnFirstSpec)

/-- ITS FALSE NEIGHBOUR: 'it returns false'. Refute it at one input. -/
def fnFirstWrong : ChangeSpec := { name := "fnFirst", fn := fun _ => fun
  | [d1, d2, d3, d4] => { results := [.lit (.bool false)], args := [d1, d2, d3, d4] }
  | _ => none }
def FnFirstWrongFalsely : Prop := fnFirstRow.holds Try.pinned (OpenSpec.ofChange fnFirstWrong)

/-- 'laws.FnJoin': WHATEVER THE INPUT: true; the input reads as it did. -/
def fnJoinSpec : ChangeSpec := { name := "fnJoin", fn := fun _ => fun
  | [d1, d2, d3] => { results := [.lit (.bool true)], args := [d1, d2, d3] }
  | _ => none }
def fnJoinRow : OpenClaim := { program := "ytnigbgablginnaa", sum := "500a6c8bdcb4c71a4328e375becec819e74f27d0acf501ce22e5adbe0a0ae17e", func := "loop.example/pub-g01460/laws.FnJoin", spec := "fnJoin", unfollowed := true, recurses := true, apart := false }
def FnJoinSaid : Prop := fnJoinRow.holds Try.pinned (OpenSpec.ofChange fnJoinSpec)

/-- ITS FALSE NEIGHBOUR: 'it returns false'. Refute it at one input. -/
def fnJoinWrong : ChangeSpec := { name := "fnJoin", fn := fun _ => fun
  | [d1, d2, d3] => { results := [.lit (.bool false)], args := [d1, d2, d3] }
  | _ => none }
def FnJoinWrongFalsely : Prop := fnJoinRow.holds Try.pinned (OpenSpec.ofChange fnJoinWrong)

/-- 'laws.FnNothing': WHATEVER THE INPUT: true; the input reads as it did. -/
def fnNothingSpec : ChangeSpec := { name := "fnNothing", fn := fun _ => fun
  | [d1, d2] => { results := [.lit (.bool true)], args := [d1, d2] }
  | _ => none }
def fnNothingRow : OpenClaim := { program := "ytnigbgablginnaa", sum := "500a6c8bdcb4c71a4328e375becec819e74f27d0acf501ce22e5adbe0a0ae17e", func := "loop.example/pub-g01460/laws.FnNothing", spec := "fnNothing", unfollowed := true, recurses := true, apart := false }
def FnNothingSaid : Prop := fnNothingRow.holds Try.pinned (OpenSpec.ofChange fnNothingSpec)

/-- ITS FALSE NEIGHBOUR: 'it returns false'. Refute it at one input. -/
def fnNothingWrong : ChangeSpec := { name := "fnNothing", fn := fun _ => fun
  | [d1, d2] => { results := [.lit (.bool false)], args := [d1, d2] }
  | _ => none }
def FnNothingWrongFalsely : Prop := fnNothingRow.holds Try.pinned (OpenSpec.ofChange fnNothingWrong)

/-- 'laws.FnOne': WHATEVER THE INPUT: true; the input reads as it did. -/
def fnOneSpec : ChangeSpec := { name := "fnOne", fn := fun _ => fun
  | [d1, d2, d3] => { results := [.lit (.bool true)], args := [d1, d2, d3] }
  | _ => none }
def fnOneRow : OpenClaim := { program := "ytnigbgablginnaa", sum := "500a6c8bdcb4c71a4328e375becec819e74f27d0acf501ce22e5adbe0a0ae17e", func := "loop.example/pub-g01460/laws.FnOne", spec := "fnOne", unfollowed := true, recurses := true, apart := false }
def FnOneSaid : Prop := fnOneRow.holds Try.pinned (OpenSpec.ofChange fnOneSpec)

/-- ITS FALSE NEIGHBOUR: 'it returns false'. Refute it at one input. -/
def fnOneWrong : ChangeSpec := { name := "fnOne", fn := fun _ => fun
  | [d1, d2, d3] => { results := [.lit (.bool false)], args := [d1, d2, d3] }
  | _ => none }
def FnOneWrongFalsely : Prop := fnOneRow.holds Try.pinned (OpenSpec.ofChange fnOneWrong)

/-- 'laws.FnReplaceEmpty': WHATEVER THE INPUT: true; the input reads as it did. -/
def fnReplaceEmptySpec : ChangeSpec := { name := "fnReplaceEmpty", fn := fun _ => fun
  | [d1, d2] => { results := [.lit (.bool true)], args := [d1, d2] }
  | _ => none }
def fnReplaceEmptyRow : OpenClaim := { program := "ytnigbgablginnaa", sum := "500a6c8bdcb4c71a4328e375becec819e74f27d0acf501ce22e5adbe0a0ae17e", func := "loop.example/pub-g01460/laws.FnReplaceEmpty", spec := "fnReplaceEmpty", unfollowed := true, recurses := true, apart := false }
def FnReplaceEmptySaid : Prop := fnReplaceEmptyRow.holds Try.pinned (OpenSpec.ofChange fnReplaceEmptySpec)

/-- ITS FALSE NEIGHBOUR: 'it returns false'. Refute it at one input. -/
def fnReplaceEmptyWrong : ChangeSpec := { name := "fnReplaceEmpty", fn := fun _ => fun
  | [d1, d2] => { results := [.lit (.bool false)], args := [d1, d2] }
  | _ => none }
def FnReplaceEmptyWrongFalsely : Prop := fnReplaceEmptyRow.holds Try.pinned (OpenSpec.ofChange fnReplaceEmptyWrong)

/-- 'laws.FnSwapped': WHATEVER THE INPUT: true; the input reads as it did. -/
def fnSwappedSpec : ChangeSpec := { name := "fnSwapped", fn := fun _ => fun
  | [d1, d2, d3] => { results := [.lit (.bool true)], args := [d1, d2, d3] }
  | _ => none }
def fnSwappedRow : OpenClaim := { program := "ytnigbgablginnaa", sum := "500a6c8bdcb4c71a4328e375becec819e74f27d0acf501ce22e5adbe0a0ae17e", func := "loop.example/pub-g01460/laws.FnSwapped", spec := "fnSwapped", unfollowed := true, recurses := true, apart := false }
def FnSwappedSaid : Prop := fnSwappedRow.holds Try.pinned (OpenSpec.ofChange fnSwappedSpec)

/-- ITS FALSE NEIGHBOUR: 'it returns false'. Refute it at one input. -/
def fnSwappedWrong : ChangeSpec := { name := "fnSwapped", fn := fun _ => fun
  | [d1, d2, d3] => { results := [.lit (.bool false)], args := [d1, d2, d3] }
  | _ => none }
def FnSwappedWrongFalsely : Prop := fnSwappedRow.holds Try.pinned (OpenSpec.ofChange fnSwappedWrong)

/- THE SECOND FORM. 'bulk': how many values and letters a reading holds, each counted each time it is reached (what is shared counts as often as it is met; a slice's spare places count too). A statement '..UptoSaid' is the law's where the arguments, and the package variables that the reading takes, are together of bulk at most 1048576: NARROWER than '..Said'. Prove '..Said' where nothing that the law and all that it calls make is longer than what came in: it says more and counts as full. Else prove '..UptoSaid'. A law counts once. -/
mutual
def uptoBulk {H : Type} : DataW H → Nat
  | .lit (.string bytes) => bytes.length + 1
  | .lit _ => 1
  | .nil => 1
  | .ptr d => uptoBulk d + 1
  | .slice elems spare => uptoBulkAll elems + uptoBulkAll spare + 1
  | .agg parts => uptoBulkAll parts + 1
  | .iface _ d => uptoBulk d + 1
  | .map entries => uptoBulkEntries entries + 1
  | .held _ => 1
def uptoBulkAll {H : Type} : List (DataW H) → Nat
  | [] => 0
  | d :: r => uptoBulk d + uptoBulkAll r
def uptoBulkEntries {H : Type} : List (Lit × DataW H) → Nat
  | [] => 0
  | x :: r => uptoBulkEntry x + uptoBulkEntries r
def uptoBulkEntry {H : Type} : Lit × DataW H → Nat
  | (.string bytes, d) => bytes.length + uptoBulk d + 1
  | (_, d) => uptoBulk d + 1
 end
def uptoSmall : (H : Type) → List (DataW H) → Bool := fun _ ds => decide (uptoBulkAll ds ≤ 1048576)
def OpenSpec.upto (s : _root_.Go.ChangeSpec) : _root_.Go.OpenSpec := { _root_.Go.OpenSpec.ofChange s with cond := some uptoSmall }

/-- 'laws.FnTurned', WHERE WHAT IT READS IS OF BULK AT MOST 1048576: true; the input reads as it did. -/
def fnTurnedUptoRow : OpenClaim := { program := "ytnigbgablginnaa", sum := "500a6c8bdcb4c71a4328e375becec819e74f27d0acf501ce22e5adbe0a0ae17e", func := "loop.example/pub-g01460/laws.FnTurned", spec := "fnTurned", unfollowed := true, recurses := true, apart := false, narrowed := true }
def FnTurnedUptoSaid : Prop := fnTurnedUptoRow.holds Try.pinned (OpenSpec.upto fnTurnedSpec)

/-- 'laws.FnGenericSame', WHERE WHAT IT READS IS OF BULK AT MOST 1048576: true; the input reads as it did. -/
def fnGenericSameUptoRow : OpenClaim := { program := "ytnigbgablginnaa", sum := "500a6c8bdcb4c71a4328e375becec819e74f27d0acf501ce22e5adbe0a0ae17e", func := "loop.example/pub-g01460/laws.FnGenericSame", spec := "fnGenericSame", unfollowed := true, recurses := true, apart := false, narrowed := true }
def FnGenericSameUptoSaid : Prop := fnGenericSameUptoRow.holds Try.pinned (OpenSpec.upto fnGenericSameSpec)

/-- 'laws.FnSingleStep', WHERE WHAT IT READS IS OF BULK AT MOST 1048576: true; the input reads as it did. -/
def fnSingleStepUptoRow : OpenClaim := { program := "ytnigbgablginnaa", sum := "500a6c8bdcb4c71a4328e375becec819e74f27d0acf501ce22e5adbe0a0ae17e", func := "loop.example/pub-g01460/laws.FnSingleStep", spec := "fnSingleStep", inPlace := ["internal/abi.NoEscape", "internal/bytealg.MakeNoZero"], apart := false, narrowed := true }
def FnSingleStepUptoSaid : Prop := fnSingleStepUptoRow.holds Try.pinned (OpenSpec.upto fnSingleStepSpec)

/-- 'laws.FnEach', WHERE WHAT IT READS IS OF BULK AT MOST 1048576: true; the input reads as it did. -/
def fnEachUptoRow : OpenClaim := { program := "ytnigbgablginnaa", sum := "500a6c8bdcb4c71a4328e375becec819e74f27d0acf501ce22e5adbe0a0ae17e", func := "loop.example/pub-g01460/laws.FnEach", spec := "fnEach", unfollowed := true, recurses := true, apart := false, narrowed := true }
def FnEachUptoSaid : Prop := fnEachUptoRow.holds Try.pinned (OpenSpec.upto fnEachSpec)

/-- 'laws.FnLookupBehind', WHERE WHAT IT READS IS OF BULK AT MOST 1048576: true; the input reads as it did. -/
def fnLookupBehindUptoRow : OpenClaim := { program := "ytnigbgablginnaa", sum := "500a6c8bdcb4c71a4328e375becec819e74f27d0acf501ce22e5adbe0a0ae17e", func := "loop.example/pub-g01460/laws.FnLookupBehind", spec := "fnLookupBehind", recurses := true, apart := false, narrowed := true }
def FnLookupBehindUptoSaid : Prop := fnLookupBehindUptoRow.holds Try.pinned (OpenSpec.upto fnLookupBehindSpec)

/-- 'laws.FnKind', WHERE WHAT IT READS IS OF BULK AT MOST 1048576: true; the input reads as it did. -/
def fnKindUptoRow : OpenClaim := { program := "ytnigbgablginnaa", sum := "500a6c8bdcb4c71a4328e375becec819e74f27d0acf501ce22e5adbe0a0ae17e", func := "loop.example/pub-g01460/laws.FnKind", spec := "fnKind", recurses := true, apart := false, narrowed := true }
def FnKindUptoSaid : Prop := fnKindUptoRow.holds Try.pinned (OpenSpec.upto fnKindSpec)

/-- 'laws.FnWriteIs', WHERE WHAT IT READS IS OF BULK AT MOST 1048576: true; the input reads as it did. -/
def fnWriteIsUptoRow : OpenClaim := { program := "ytnigbgablginnaa", sum := "500a6c8bdcb4c71a4328e375becec819e74f27d0acf501ce22e5adbe0a0ae17e", func := "loop.example/pub-g01460/laws.FnWriteIs", spec := "fnWriteIs", unfollowed := true, recurses := true, apart := false, narrowed := true }
def FnWriteIsUptoSaid : Prop := fnWriteIsUptoRow.holds Try.pinned (OpenSpec.upto fnWriteIsSpec)

/-- 'laws.FnAhead', WHERE WHAT IT READS IS OF BULK AT MOST 1048576: true; the input reads as it did. -/
def fnAheadUptoRow : OpenClaim := { program := "ytnigbgablginnaa", sum := "500a6c8bdcb4c71a4328e375becec819e74f27d0acf501ce22e5adbe0a0ae17e", func := "loop.example/pub-g01460/laws.FnAhead", spec := "fnAhead", unfollowed := true, recurses := true, apart := false, narrowed := true }
def FnAheadUptoSaid : Prop := fnAheadUptoRow.holds Try.pinned (OpenSpec.upto fnAheadSpec)

/-- 'laws.FnByteTexts', WHERE WHAT IT READS IS OF BULK AT MOST 1048576: true; the input reads as it did. -/
def fnByteTextsUptoRow : OpenClaim := { program := "ytnigbgablginnaa", sum := "500a6c8bdcb4c71a4328e375becec819e74f27d0acf501ce22e5adbe0a0ae17e", func := "loop.example/pub-g01460/laws.FnByteTexts", spec := "fnByteTexts", unfollowed := true, recurses := true, apart := false, narrowed := true }
def FnByteTextsUptoSaid : Prop := fnByteTextsUptoRow.holds Try.pinned (OpenSpec.upto fnByteTextsSpec)

/-- 'laws.FnFirst', WHERE WHAT IT READS IS OF BULK AT MOST 1048576: true; the input reads as it did. -/
def fnFirstUptoRow : OpenClaim := { program := "ytnigbgablginnaa", sum := "500a6c8bdcb4c71a4328e375becec819e74f27d0acf501ce22e5adbe0a0ae17e", func := "loop.example/pub-g01460/laws.FnFirst", spec := "fnFirst", unfollowed := true, recurses := true, apart := false, narrowed := true }
def FnFirstUptoSaid : Prop := fnFirstUptoRow.holds Try.pinned (OpenSpec.upto fnFirstSpec)

/-- 'laws.FnJoin', WHERE WHAT IT READS IS OF BULK AT MOST 1048576: true; the input reads as it did. -/
def fnJoinUptoRow : OpenClaim := { program := "ytnigbgablginnaa", sum := "500a6c8bdcb4c71a4328e375becec819e74f27d0acf501ce22e5adbe0a0ae17e", func := "loop.example/pub-g01460/laws.FnJoin", spec := "fnJoin", unfollowed := true, recurses := true, apart := false, narrowed := true }
def FnJoinUptoSaid : Prop := fnJoinUptoRow.holds Try.pinned (OpenSpec.upto fnJoinSpec)

/-- 'laws.FnNothing', WHERE WHAT IT READS IS OF BULK AT MOST 1048576: true; the input reads as it did. -/
def fnNothingUptoRow : OpenClaim := { program := "ytnigbgablginnaa", sum := "500a6c8bdcb4c71a4328e375becec819e74f27d0acf501ce22e5adbe0a0ae17e", func := "loop.example/pub-g01460/laws.FnNothing", spec := "fnNothing", unfollowed := true, recurses := true, apart := false, narrowed := true }
def FnNothingUptoSaid : Prop := fnNothingUptoRow.holds Try.pinned (OpenSpec.upto fnNothingSpec)

/-- 'laws.FnOne', WHERE WHAT IT READS IS OF BULK AT MOST 1048576: true; the input reads as it did. -/
def fnOneUptoRow : OpenClaim := { program := "ytnigbgablginnaa", sum := "500a6c8bdcb4c71a4328e375becec819e74f27d0acf501ce22e5adbe0a0ae17e", func := "loop.example/pub-g01460/laws.FnOne", spec := "fnOne", unfollowed := true, recurses := true, apart := false, narrowed := true }
def FnOneUptoSaid : Prop := fnOneUptoRow.holds Try.pinned (OpenSpec.upto fnOneSpec)

/-- 'laws.FnReplaceEmpty', WHERE WHAT IT READS IS OF BULK AT MOST 1048576: true; the input reads as it did. -/
def fnReplaceEmptyUptoRow : OpenClaim := { program := "ytnigbgablginnaa", sum := "500a6c8bdcb4c71a4328e375becec819e74f27d0acf501ce22e5adbe0a0ae17e", func := "loop.example/pub-g01460/laws.FnReplaceEmpty", spec := "fnReplaceEmpty", unfollowed := true, recurses := true, apart := false, narrowed := true }
def FnReplaceEmptyUptoSaid : Prop := fnReplaceEmptyUptoRow.holds Try.pinned (OpenSpec.upto fnReplaceEmptySpec)

/-- 'laws.FnSwapped', WHERE WHAT IT READS IS OF BULK AT MOST 1048576: true; the input reads as it did. -/
def fnSwappedUptoRow : OpenClaim := { program := "ytnigbgablginnaa", sum := "500a6c8bdcb4c71a4328e375becec819e74f27d0acf501ce22e5adbe0a0ae17e", func := "loop.example/pub-g01460/laws.FnSwapped", spec := "fnSwapped", unfollowed := true, recurses := true, apart := false, narrowed := true }
def FnSwappedUptoSaid : Prop := fnSwappedUptoRow.holds Try.pinned (OpenSpec.upto fnSwappedSpec)

end Rows
end Go.Proofs.Ytnigbgablginnaa

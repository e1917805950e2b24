/-
  NARROWER THAN 'FOR EVERY INPUT', by the rows' own cells (each row's printed sentence says how): FnStrFields: laid · FnStrTrimSpace: laid · FnStrSplit: laid · FnStrSplitN: laid · FnSplitTwo: laid · FnFieldsJoin: laid · FnStrReplaceAll: laid · FnStrIndexAnyBytesCandidate: laid · FnStrSplitSeq: laid · FnSplitJoin: laid · FnReplaceSplit: laid.
  DERIVED. THE GIVEN ROWS OF THIS SEAT. 11 by the template 'for every input the law returns true; each argument reads behind the call as it read before'; 0 by the template 'total and deterministic' (their statements: YtblaldahhhokmaaDoorTotals.lean).
  GIVEN WITH THE SEED: the statements are not yours to turn. If you find one false, say at which input.
  Laid BY PROGRAM, IN A SANDBOX (cutbox-rows.mjs): the forced cells as the released guide's own fill.sh prints them over the translation 453157cc7c151eac… (all of the seat's roots in one cut). By AI agents, Wed Nov 11 2026. No macro, syntax, notation, axiom, sorry.
-/
import Derived.Test.YtblaldahhhokmaaDoorChecked
import GoSem.PinnedTables
import GoSem.Claim
import GoSem.ClaimJoined
import GoSem.ClaimMapViews
import Derived.JoinedTies
import Derived.KernelRfl
namespace Go.Proofs.YtblaldahhhokmaaDoor
/- THE CELL 'sum', in the pinned program and in every row, IS THE sha256 OF THE DUMP (.gsa) THAT YtblaldahhhokmaaDoorProg.lean LOADS. Nothing in Lean hashes anything: it is a label: what it is worth is what the hold of that sum in a sandbox is worth. -/
noncomputable def Tryd.pinned : Pinned := { name := "ytblaldahhhokmaadoor", sum := "453157cc7c151eac541fad4c39d38ebe1a116b41004a62eca30bbcd325f681fe", checked := Tryd.checked }
namespace Rows
def none {H : Type} : Left H := { results := [], args := [] }

/- WHAT THE LISTED PACKAGE-LEVEL VARIABLES READ AS WHEN THE CALL BEGINS. Each datum BY PROGRAM (the guide's laid-datum.mjs) off the statement by which the dump's own 'gosem.cut.vars' lays the variable. In a bare row this is a premise. The card (YtblaldahhhokmaaDoorCards.lean) ties it to the program's text. -/
def laid_unicode_White_Space {H : Type} : DataW H := .ptr (.agg [.slice [.agg [.lit (.int .u16 9), .lit (.int .u16 13), .lit (.int .u16 1)], .agg [.lit (.int .u16 32), .lit (.int .u16 133), .lit (.int .u16 101)], .agg [.lit (.int .u16 160), .lit (.int .u16 5760), .lit (.int .u16 5600)], .agg [.lit (.int .u16 8192), .lit (.int .u16 8202), .lit (.int .u16 1)], .agg [.lit (.int .u16 8232), .lit (.int .u16 8233), .lit (.int .u16 1)], .agg [.lit (.int .u16 8239), .lit (.int .u16 8287), .lit (.int .u16 48)], .agg [.lit (.int .u16 12288), .lit (.int .u16 12288), .lit (.int .u16 1)]] [], .nil, .lit (.int .i64 2)])
def laid_loop_example_pub_g01460_pub_gostrings_asciiSpace {H : Type} : DataW H := .agg [.lit (.int .u8 0), .lit (.int .u8 0), .lit (.int .u8 0), .lit (.int .u8 0), .lit (.int .u8 0), .lit (.int .u8 0), .lit (.int .u8 0), .lit (.int .u8 0), .lit (.int .u8 0), .lit (.int .u8 1), .lit (.int .u8 1), .lit (.int .u8 1), .lit (.int .u8 1), .lit (.int .u8 1), .lit (.int .u8 0), .lit (.int .u8 0), .lit (.int .u8 0), .lit (.int .u8 0), .lit (.int .u8 0), .lit (.int .u8 0), .lit (.int .u8 0), .lit (.int .u8 0), .lit (.int .u8 0), .lit (.int .u8 0), .lit (.int .u8 0), .lit (.int .u8 0), .lit (.int .u8 0), .lit (.int .u8 0), .lit (.int .u8 0), .lit (.int .u8 0), .lit (.int .u8 0), .lit (.int .u8 0), .lit (.int .u8 1), .lit (.int .u8 0), .lit (.int .u8 0), .lit (.int .u8 0), .lit (.int .u8 0), .lit (.int .u8 0), .lit (.int .u8 0), .lit (.int .u8 0), .lit (.int .u8 0), .lit (.int .u8 0), .lit (.int .u8 0), .lit (.int .u8 0), .lit (.int .u8 0), .lit (.int .u8 0), .lit (.int .u8 0), .lit (.int .u8 0), .lit (.int .u8 0), .lit (.int .u8 0), .lit (.int .u8 0), .lit (.int .u8 0), .lit (.int .u8 0), .lit (.int .u8 0), .lit (.int .u8 0), .lit (.int .u8 0), .lit (.int .u8 0), .lit (.int .u8 0), .lit (.int .u8 0), .lit (.int .u8 0), .lit (.int .u8 0), .lit (.int .u8 0), .lit (.int .u8 0), .lit (.int .u8 0), .lit (.int .u8 0), .lit (.int .u8 0), .lit (.int .u8 0), .lit (.int .u8 0), .lit (.int .u8 0), .lit (.int .u8 0), .lit (.int .u8 0), .lit (.int .u8 0), .lit (.int .u8 0), .lit (.int .u8 0), .lit (.int .u8 0), .lit (.int .u8 0), .lit (.int .u8 0), .lit (.int .u8 0), .lit (.int .u8 0), .lit (.int .u8 0), .lit (.int .u8 0), .lit (.int .u8 0), .lit (.int .u8 0), .lit (.int .u8 0), .lit (.int .u8 0), .lit (.int .u8 0), .lit (.int .u8 0), .lit (.int .u8 0), .lit (.int .u8 0), .lit (.int .u8 0), .lit (.int .u8 0), .lit (.int .u8 0), .lit (.int .u8 0), .lit (.int .u8 0), .lit (.int .u8 0), .lit (.int .u8 0), .lit (.int .u8 0), .lit (.int .u8 0), .lit (.int .u8 0), .lit (.int .u8 0), .lit (.int .u8 0), .lit (.int .u8 0), .lit (.int .u8 0), .lit (.int .u8 0), .lit (.int .u8 0), .lit (.int .u8 0), .lit (.int .u8 0), .lit (.int .u8 0), .lit (.int .u8 0), .lit (.int .u8 0), .lit (.int .u8 0), .lit (.int .u8 0), .lit (.int .u8 0), .lit (.int .u8 0), .lit (.int .u8 0), .lit (.int .u8 0), .lit (.int .u8 0), .lit (.int .u8 0), .lit (.int .u8 0), .lit (.int .u8 0), .lit (.int .u8 0), .lit (.int .u8 0), .lit (.int .u8 0), .lit (.int .u8 0), .lit (.int .u8 0), .lit (.int .u8 0), .lit (.int .u8 0), .lit (.int .u8 0), .lit (.int .u8 0), .lit (.int .u8 0), .lit (.int .u8 0), .lit (.int .u8 0), .lit (.int .u8 0), .lit (.int .u8 0), .lit (.int .u8 0), .lit (.int .u8 0), .lit (.int .u8 0), .lit (.int .u8 0), .lit (.int .u8 0), .lit (.int .u8 0), .lit (.int .u8 0), .lit (.int .u8 0), .lit (.int .u8 0), .lit (.int .u8 0), .lit (.int .u8 0), .lit (.int .u8 0), .lit (.int .u8 0), .lit (.int .u8 0), .lit (.int .u8 0), .lit (.int .u8 0), .lit (.int .u8 0), .lit (.int .u8 0), .lit (.int .u8 0), .lit (.int .u8 0), .lit (.int .u8 0), .lit (.int .u8 0), .lit (.int .u8 0), .lit (.int .u8 0), .lit (.int .u8 0), .lit (.int .u8 0), .lit (.int .u8 0), .lit (.int .u8 0), .lit (.int .u8 0), .lit (.int .u8 0), .lit (.int .u8 0), .lit (.int .u8 0), .lit (.int .u8 0), .lit (.int .u8 0), .lit (.int .u8 0), .lit (.int .u8 0), .lit (.int .u8 0), .lit (.int .u8 0), .lit (.int .u8 0), .lit (.int .u8 0), .lit (.int .u8 0), .lit (.int .u8 0), .lit (.int .u8 0), .lit (.int .u8 0), .lit (.int .u8 0), .lit (.int .u8 0), .lit (.int .u8 0), .lit (.int .u8 0), .lit (.int .u8 0), .lit (.int .u8 0), .lit (.int .u8 0), .lit (.int .u8 0), .lit (.int .u8 0), .lit (.int .u8 0), .lit (.int .u8 0), .lit (.int .u8 0), .lit (.int .u8 0), .lit (.int .u8 0), .lit (.int .u8 0), .lit (.int .u8 0), .lit (.int .u8 0), .lit (.int .u8 0), .lit (.int .u8 0), .lit (.int .u8 0), .lit (.int .u8 0), .lit (.int .u8 0), .lit (.int .u8 0), .lit (.int .u8 0), .lit (.int .u8 0), .lit (.int .u8 0), .lit (.int .u8 0), .lit (.int .u8 0), .lit (.int .u8 0), .lit (.int .u8 0), .lit (.int .u8 0), .lit (.int .u8 0), .lit (.int .u8 0), .lit (.int .u8 0), .lit (.int .u8 0), .lit (.int .u8 0), .lit (.int .u8 0), .lit (.int .u8 0), .lit (.int .u8 0), .lit (.int .u8 0), .lit (.int .u8 0), .lit (.int .u8 0), .lit (.int .u8 0), .lit (.int .u8 0), .lit (.int .u8 0), .lit (.int .u8 0), .lit (.int .u8 0), .lit (.int .u8 0), .lit (.int .u8 0), .lit (.int .u8 0), .lit (.int .u8 0), .lit (.int .u8 0), .lit (.int .u8 0), .lit (.int .u8 0), .lit (.int .u8 0), .lit (.int .u8 0), .lit (.int .u8 0), .lit (.int .u8 0), .lit (.int .u8 0), .lit (.int .u8 0), .lit (.int .u8 0), .lit (.int .u8 0), .lit (.int .u8 0), .lit (.int .u8 0), .lit (.int .u8 0), .lit (.int .u8 0), .lit (.int .u8 0), .lit (.int .u8 0), .lit (.int .u8 0), .lit (.int .u8 0), .lit (.int .u8 0), .lit (.int .u8 0), .lit (.int .u8 0), .lit (.int .u8 0), .lit (.int .u8 0), .lit (.int .u8 0), .lit (.int .u8 0), .lit (.int .u8 0)]
def laid_unicode_utf8_acceptRanges {H : Type} : DataW H := .agg [.agg [.lit (.int .u8 128), .lit (.int .u8 191)], .agg [.lit (.int .u8 160), .lit (.int .u8 191)], .agg [.lit (.int .u8 128), .lit (.int .u8 159)], .agg [.lit (.int .u8 144), .lit (.int .u8 191)], .agg [.lit (.int .u8 128), .lit (.int .u8 143)], .agg [.lit (.int .u8 0), .lit (.int .u8 0)], .agg [.lit (.int .u8 0), .lit (.int .u8 0)], .agg [.lit (.int .u8 0), .lit (.int .u8 0)], .agg [.lit (.int .u8 0), .lit (.int .u8 0)], .agg [.lit (.int .u8 0), .lit (.int .u8 0)], .agg [.lit (.int .u8 0), .lit (.int .u8 0)], .agg [.lit (.int .u8 0), .lit (.int .u8 0)], .agg [.lit (.int .u8 0), .lit (.int .u8 0)], .agg [.lit (.int .u8 0), .lit (.int .u8 0)], .agg [.lit (.int .u8 0), .lit (.int .u8 0)], .agg [.lit (.int .u8 0), .lit (.int .u8 0)]]
/-- One of Go's own tables, pinned by name: the form's constant. -/
def laid_unicode_utf8_first : DataW Unit := Go.Pinned.utf8First

/-- 'laws.FnStrFields': WHATEVER THE INPUT: true; the input reads as it did. -/
def fnStrFieldsSpec : ChangeSpec := { name := "fnStrFields", vars := ["loop.example/pub-g01460/pub/gostrings.asciiSpace"], fn := fun _ => fun
  | [d, g1] => { results := [.lit (.bool true)], args := [d], vars := [g1] }
  | _ => none }
def fnStrFieldsRow : OpenClaim := { program := "ytblaldahhhokmaadoor", sum := "453157cc7c151eac541fad4c39d38ebe1a116b41004a62eca30bbcd325f681fe", func := "loop.example/pub-g01460/laws.FnStrFields", spec := "fnStrFields", unfollowed := true, recurses := true, named := ["loop.example/pub-g01460/pub/gostrings.asciiSpace", "unicode.White_Space"], apart := false, laid := [("unicode.White_Space", laid_unicode_White_Space), ("loop.example/pub-g01460/pub/gostrings.asciiSpace", laid_loop_example_pub_g01460_pub_gostrings_asciiSpace)] }
def FnStrFieldsSaid : Prop := fnStrFieldsRow.holds Tryd.pinned (OpenSpec.ofChange fnStrFieldsSpec)

/-- ITS FALSE NEIGHBOUR: 'it returns false'. Refute it at one input. -/
def fnStrFieldsWrong : ChangeSpec := { name := "fnStrFields", vars := ["loop.example/pub-g01460/pub/gostrings.asciiSpace"], fn := fun _ => fun
  | [d, g1] => { results := [.lit (.bool false)], args := [d], vars := [g1] }
  | _ => none }
def FnStrFieldsWrongFalsely : Prop := fnStrFieldsRow.holds Tryd.pinned (OpenSpec.ofChange fnStrFieldsWrong)

/-- 'laws.FnStrTrimSpace': WHATEVER THE INPUT: true; the input reads as it did. -/
def fnStrTrimSpaceSpec : ChangeSpec := { name := "fnStrTrimSpace", vars := ["loop.example/pub-g01460/pub/gostrings.asciiSpace"], fn := fun _ => fun
  | [d, g1] => { results := [.lit (.bool true)], args := [d], vars := [g1] }
  | _ => none }
def fnStrTrimSpaceRow : OpenClaim := { program := "ytblaldahhhokmaadoor", sum := "453157cc7c151eac541fad4c39d38ebe1a116b41004a62eca30bbcd325f681fe", func := "loop.example/pub-g01460/laws.FnStrTrimSpace", spec := "fnStrTrimSpace", unfollowed := true, recurses := true, named := ["loop.example/pub-g01460/pub/gostrings.asciiSpace", "unicode/utf8.first", "unicode/utf8.acceptRanges", "unicode.White_Space"], apart := false, laid := [("unicode/utf8.acceptRanges", laid_unicode_utf8_acceptRanges), ("unicode.White_Space", laid_unicode_White_Space), ("loop.example/pub-g01460/pub/gostrings.asciiSpace", laid_loop_example_pub_g01460_pub_gostrings_asciiSpace), ("unicode/utf8.first", laid_unicode_utf8_first)] }
def FnStrTrimSpaceSaid : Prop := fnStrTrimSpaceRow.holds Tryd.pinned (OpenSpec.ofChange fnStrTrimSpaceSpec)

/-- ITS FALSE NEIGHBOUR: 'it returns false'. Refute it at one input. -/
def fnStrTrimSpaceWrong : ChangeSpec := { name := "fnStrTrimSpace", vars := ["loop.example/pub-g01460/pub/gostrings.asciiSpace"], fn := fun _ => fun
  | [d, g1] => { results := [.lit (.bool false)], args := [d], vars := [g1] }
  | _ => none }
def FnStrTrimSpaceWrongFalsely : Prop := fnStrTrimSpaceRow.holds Tryd.pinned (OpenSpec.ofChange fnStrTrimSpaceWrong)

/-- 'laws.FnStrSplit': WHATEVER THE INPUT: true; the input reads as it did. -/
def fnStrSplitSpec : ChangeSpec := { name := "fnStrSplit", fn := fun _ => fun
  | [d1, d2] => { results := [.lit (.bool true)], args := [d1, d2] }
  | _ => none }
def fnStrSplitRow : OpenClaim := { program := "ytblaldahhhokmaadoor", sum := "453157cc7c151eac541fad4c39d38ebe1a116b41004a62eca30bbcd325f681fe", func := "loop.example/pub-g01460/laws.FnStrSplit", spec := "fnStrSplit", named := ["unicode/utf8.first", "unicode/utf8.acceptRanges"], apart := false, laid := [("unicode/utf8.acceptRanges", laid_unicode_utf8_acceptRanges), ("unicode/utf8.first", laid_unicode_utf8_first)] }
def FnStrSplitSaid : Prop := fnStrSplitRow.holds Tryd.pinned (OpenSpec.ofChange fnStrSplitSpec)

/-- ITS FALSE NEIGHBOUR: 'it returns false'. Refute it at one input. -/
def fnStrSplitWrong : ChangeSpec := { name := "fnStrSplit", fn := fun _ => fun
  | [d1, d2] => { results := [.lit (.bool false)], args := [d1, d2] }
  | _ => none }
def FnStrSplitWrongFalsely : Prop := fnStrSplitRow.holds Tryd.pinned (OpenSpec.ofChange fnStrSplitWrong)

/-- 'laws.FnStrSplitN': WHATEVER THE INPUT: true; the input reads as it did. -/
def fnStrSplitNSpec : ChangeSpec := { name := "fnStrSplitN", fn := fun _ => fun
  | [d1, d2, d3] => { results := [.lit (.bool true)], args := [d1, d2, d3] }
  | _ => none }
def fnStrSplitNRow : OpenClaim := { program := "ytblaldahhhokmaadoor", sum := "453157cc7c151eac541fad4c39d38ebe1a116b41004a62eca30bbcd325f681fe", func := "loop.example/pub-g01460/laws.FnStrSplitN", spec := "fnStrSplitN", named := ["unicode/utf8.first", "unicode/utf8.acceptRanges"], apart := false, laid := [("unicode/utf8.acceptRanges", laid_unicode_utf8_acceptRanges), ("unicode/utf8.first", laid_unicode_utf8_first)] }
def FnStrSplitNSaid : Prop := fnStrSplitNRow.holds Tryd.pinned (OpenSpec.ofChange fnStrSplitNSpec)

/-- ITS FALSE NEIGHBOUR: 'it returns false'. Refute it at one input. -/
def fnStrSplitNWrong : ChangeSpec := { name := "fnStrSplitN", fn := fun _ => fun
  | [d1, d2, d3] => { results := [.lit (.bool false)], args := [d1, d2, d3] }
  | _ => none }
def FnStrSplitNWrongFalsely : Prop := fnStrSplitNRow.holds Tryd.pinned (OpenSpec.ofChange fnStrSplitNWrong)

/-- 'laws.FnSplitTwo': WHATEVER THE INPUT: true; the input reads as it did. -/
def fnSplitTwoSpec : ChangeSpec := { name := "fnSplitTwo", fn := fun _ => fun
  | [d1, d2] => { results := [.lit (.bool true)], args := [d1, d2] }
  | _ => none }
def fnSplitTwoRow : OpenClaim := { program := "ytblaldahhhokmaadoor", sum := "453157cc7c151eac541fad4c39d38ebe1a116b41004a62eca30bbcd325f681fe", func := "loop.example/pub-g01460/laws.FnSplitTwo", spec := "fnSplitTwo", named := ["unicode/utf8.first", "unicode/utf8.acceptRanges"], apart := false, laid := [("unicode/utf8.acceptRanges", laid_unicode_utf8_acceptRanges), ("unicode/utf8.first", laid_unicode_utf8_first)] }
def FnSplitTwoSaid : Prop := fnSplitTwoRow.holds Tryd.pinned (OpenSpec.ofChange fnSplitTwoSpec)

/-- ITS FALSE NEIGHBOUR: 'it returns false'. Refute it at one input. -/
def fnSplitTwoWrong : ChangeSpec := { name := "fnSplitTwo", fn := fun _ => fun
  | [d1, d2] => { results := [.lit (.bool false)], args := [d1, d2] }
  | _ => none }
def FnSplitTwoWrongFalsely : Prop := fnSplitTwoRow.holds Tryd.pinned (OpenSpec.ofChange fnSplitTwoWrong)

/-- 'laws.FnFieldsJoin': WHATEVER THE INPUT: true; the input reads as it did. -/
def fnFieldsJoinSpec : ChangeSpec := { name := "fnFieldsJoin", vars := ["loop.example/pub-g01460/pub/gostrings.asciiSpace"], fn := fun _ => fun
  | [d, g1] => { results := [.lit (.bool true)], args := [d], vars := [g1] }
  | _ => none }
def fnFieldsJoinRow : OpenClaim := { program := "ytblaldahhhokmaadoor", sum := "453157cc7c151eac541fad4c39d38ebe1a116b41004a62eca30bbcd325f681fe", func := "loop.example/pub-g01460/laws.FnFieldsJoin", spec := "fnFieldsJoin", inPlace := ["internal/abi.NoEscape", "internal/bytealg.MakeNoZero"], unfollowed := true, recurses := true, named := ["loop.example/pub-g01460/pub/gostrings.asciiSpace", "unicode.White_Space"], apart := false, laid := [("unicode.White_Space", laid_unicode_White_Space), ("loop.example/pub-g01460/pub/gostrings.asciiSpace", laid_loop_example_pub_g01460_pub_gostrings_asciiSpace)] }
def FnFieldsJoinSaid : Prop := fnFieldsJoinRow.holds Tryd.pinned (OpenSpec.ofChange fnFieldsJoinSpec)

/-- ITS FALSE NEIGHBOUR: 'it returns false'. Refute it at one input. -/
def fnFieldsJoinWrong : ChangeSpec := { name := "fnFieldsJoin", vars := ["loop.example/pub-g01460/pub/gostrings.asciiSpace"], fn := fun _ => fun
  | [d, g1] => { results := [.lit (.bool false)], args := [d], vars := [g1] }
  | _ => none }
def FnFieldsJoinWrongFalsely : Prop := fnFieldsJoinRow.holds Tryd.pinned (OpenSpec.ofChange fnFieldsJoinWrong)

/-- 'laws.FnStrReplaceAll': WHATEVER THE INPUT: true; the input reads as it did. -/
def fnStrReplaceAllSpec : ChangeSpec := { name := "fnStrReplaceAll", fn := fun _ => fun
  | [d1, d2, d3] => { results := [.lit (.bool true)], args := [d1, d2, d3] }
  | _ => none }
def fnStrReplaceAllRow : OpenClaim := { program := "ytblaldahhhokmaadoor", sum := "453157cc7c151eac541fad4c39d38ebe1a116b41004a62eca30bbcd325f681fe", func := "loop.example/pub-g01460/laws.FnStrReplaceAll", spec := "fnStrReplaceAll", inPlace := ["internal/abi.NoEscape", "internal/bytealg.MakeNoZero"], named := ["unicode/utf8.first", "unicode/utf8.acceptRanges"], apart := false, laid := [("unicode/utf8.acceptRanges", laid_unicode_utf8_acceptRanges), ("unicode/utf8.first", laid_unicode_utf8_first)] }
def FnStrReplaceAllSaid : Prop := fnStrReplaceAllRow.holds Tryd.pinned (OpenSpec.ofChange fnStrReplaceAllSpec)

/-- ITS FALSE NEIGHBOUR: 'it returns false'. Refute it at one input. -/
def fnStrReplaceAllWrong : ChangeSpec := { name := "fnStrReplaceAll", fn := fun _ => fun
  | [d1, d2, d3] => { results := [.lit (.bool false)], args := [d1, d2, d3] }
  | _ => none }
def FnStrReplaceAllWrongFalsely : Prop := fnStrReplaceAllRow.holds Tryd.pinned (OpenSpec.ofChange fnStrReplaceAllWrong)

/-- 'laws.FnStrIndexAnyBytesCandidate': WHATEVER THE INPUT: true; the input reads as it did. -/
def fnStrIndexAnyBytesCandidateSpec : ChangeSpec := { name := "fnStrIndexAnyBytesCandidate", fn := fun _ => fun
  | [d1, d2] => { results := [.lit (.bool true)], args := [d1, d2] }
  | _ => none }
def fnStrIndexAnyBytesCandidateRow : OpenClaim := { program := "ytblaldahhhokmaadoor", sum := "453157cc7c151eac541fad4c39d38ebe1a116b41004a62eca30bbcd325f681fe", func := "loop.example/pub-g01460/laws.FnStrIndexAnyBytesCandidate", spec := "fnStrIndexAnyBytesCandidate", named := ["unicode/utf8.first", "unicode/utf8.acceptRanges"], apart := false, laid := [("unicode/utf8.acceptRanges", laid_unicode_utf8_acceptRanges), ("unicode/utf8.first", laid_unicode_utf8_first)] }
def FnStrIndexAnyBytesCandidateSaid : Prop := fnStrIndexAnyBytesCandidateRow.holds Tryd.pinned (OpenSpec.ofChange fnStrIndexAnyBytesCandidateSpec)

/-- ITS FALSE NEIGHBOUR: 'it returns false'. Refute it at one input. -/
def fnStrIndexAnyBytesCandidateWrong : ChangeSpec := { name := "fnStrIndexAnyBytesCandidate", fn := fun _ => fun
  | [d1, d2] => { results := [.lit (.bool false)], args := [d1, d2] }
  | _ => none }
def FnStrIndexAnyBytesCandidateWrongFalsely : Prop := fnStrIndexAnyBytesCandidateRow.holds Tryd.pinned (OpenSpec.ofChange fnStrIndexAnyBytesCandidateWrong)

/-- 'laws.FnStrSplitSeq': WHATEVER THE INPUT: true; the input reads as it did. -/
def fnStrSplitSeqSpec : ChangeSpec := { name := "fnStrSplitSeq", fn := fun _ => fun
  | [d1, d2] => { results := [.lit (.bool true)], args := [d1, d2] }
  | _ => none }
def fnStrSplitSeqRow : OpenClaim := { program := "ytblaldahhhokmaadoor", sum := "453157cc7c151eac541fad4c39d38ebe1a116b41004a62eca30bbcd325f681fe", func := "loop.example/pub-g01460/laws.FnStrSplitSeq", spec := "fnStrSplitSeq", unfollowed := true, recurses := true, named := ["unicode/utf8.first", "unicode/utf8.acceptRanges"], apart := false, laid := [("unicode/utf8.acceptRanges", laid_unicode_utf8_acceptRanges), ("unicode/utf8.first", laid_unicode_utf8_first)] }
def FnStrSplitSeqSaid : Prop := fnStrSplitSeqRow.holds Tryd.pinned (OpenSpec.ofChange fnStrSplitSeqSpec)

/-- ITS FALSE NEIGHBOUR: 'it returns false'. Refute it at one input. -/
def fnStrSplitSeqWrong : ChangeSpec := { name := "fnStrSplitSeq", fn := fun _ => fun
  | [d1, d2] => { results := [.lit (.bool false)], args := [d1, d2] }
  | _ => none }
def FnStrSplitSeqWrongFalsely : Prop := fnStrSplitSeqRow.holds Tryd.pinned (OpenSpec.ofChange fnStrSplitSeqWrong)

/-- 'laws.FnSplitJoin': WHATEVER THE INPUT: true; the input reads as it did. -/
def fnSplitJoinSpec : ChangeSpec := { name := "fnSplitJoin", fn := fun _ => fun
  | [d1, d2] => { results := [.lit (.bool true)], args := [d1, d2] }
  | _ => none }
def fnSplitJoinRow : OpenClaim := { program := "ytblaldahhhokmaadoor", sum := "453157cc7c151eac541fad4c39d38ebe1a116b41004a62eca30bbcd325f681fe", func := "loop.example/pub-g01460/laws.FnSplitJoin", spec := "fnSplitJoin", inPlace := ["internal/abi.NoEscape", "internal/bytealg.MakeNoZero"], named := ["unicode/utf8.first", "unicode/utf8.acceptRanges"], apart := false, laid := [("unicode/utf8.acceptRanges", laid_unicode_utf8_acceptRanges), ("unicode/utf8.first", laid_unicode_utf8_first)] }
def FnSplitJoinSaid : Prop := fnSplitJoinRow.holds Tryd.pinned (OpenSpec.ofChange fnSplitJoinSpec)

/-- ITS FALSE NEIGHBOUR: 'it returns false'. Refute it at one input. -/
def fnSplitJoinWrong : ChangeSpec := { name := "fnSplitJoin", fn := fun _ => fun
  | [d1, d2] => { results := [.lit (.bool false)], args := [d1, d2] }
  | _ => none }
def FnSplitJoinWrongFalsely : Prop := fnSplitJoinRow.holds Tryd.pinned (OpenSpec.ofChange fnSplitJoinWrong)

/-- 'laws.FnReplaceSplit': WHATEVER THE INPUT: true; the input reads as it did. -/
def fnReplaceSplitSpec : ChangeSpec := { name := "fnReplaceSplit", fn := fun _ => fun
  | [d1, d2, d3] => { results := [.lit (.bool true)], args := [d1, d2, d3] }
  | _ => none }
def fnReplaceSplitRow : OpenClaim := { program := "ytblaldahhhokmaadoor", sum := "453157cc7c151eac541fad4c39d38ebe1a116b41004a62eca30bbcd325f681fe", func := "loop.example/pub-g01460/laws.FnReplaceSplit", spec := "fnReplaceSplit", inPlace := ["internal/abi.NoEscape", "internal/bytealg.MakeNoZero"], named := ["unicode/utf8.first", "unicode/utf8.acceptRanges"], apart := false, laid := [("unicode/utf8.acceptRanges", laid_unicode_utf8_acceptRanges), ("unicode/utf8.first", laid_unicode_utf8_first)] }
def FnReplaceSplitSaid : Prop := fnReplaceSplitRow.holds Tryd.pinned (OpenSpec.ofChange fnReplaceSplitSpec)

/-- ITS FALSE NEIGHBOUR: 'it returns false'. Refute it at one input. -/
def fnReplaceSplitWrong : ChangeSpec := { name := "fnReplaceSplit", fn := fun _ => fun
  | [d1, d2, d3] => { results := [.lit (.bool false)], args := [d1, d2, d3] }
  | _ => none }
def FnReplaceSplitWrongFalsely : Prop := fnReplaceSplitRow.holds Tryd.pinned (OpenSpec.ofChange fnReplaceSplitWrong)

/- THE SECOND FORM. 'bulk': how many values and letters a reading holds, each counted each time it is reached (what is shared counts as often as it is met; a slice's spare places count too). A statement '..UptoSaid' is the law's where the arguments, and the package variables that the reading takes, are together of bulk at most 1048576: NARROWER than '..Said'. Prove '..Said' where nothing that the law and all that it calls make is longer than what came in: it says more and counts as full. Else prove '..UptoSaid'. A law counts once. -/
mutual
def uptoBulk {H : Type} : DataW H → Nat
  | .lit (.string bytes) => bytes.length + 1
  | .lit _ => 1
  | .nil => 1
  | .ptr d => uptoBulk d + 1
  | .slice elems spare => uptoBulkAll elems + uptoBulkAll spare + 1
  | .agg parts => uptoBulkAll parts + 1
  | .iface _ d => uptoBulk d + 1
  | .map entries => uptoBulkEntries entries + 1
  | .held _ => 1
def uptoBulkAll {H : Type} : List (DataW H) → Nat
  | [] => 0
  | d :: r => uptoBulk d + uptoBulkAll r
def uptoBulkEntries {H : Type} : List (Lit × DataW H) → Nat
  | [] => 0
  | x :: r => uptoBulkEntry x + uptoBulkEntries r
def uptoBulkEntry {H : Type} : Lit × DataW H → Nat
  | (.string bytes, d) => bytes.length + uptoBulk d + 1
  | (_, d) => uptoBulk d + 1
 end
def uptoSmall : (H : Type) → List (DataW H) → Bool := fun _ ds => decide (uptoBulkAll ds ≤ 1048576)
def OpenSpec.upto (s : _root_.Go.ChangeSpec) : _root_.Go.OpenSpec := { _root_.Go.OpenSpec.ofChange s with cond := some uptoSmall }

/-- 'laws.FnStrFields', WHERE WHAT IT READS IS OF BULK AT MOST 1048576: true; the input reads as it did. -/
def fnStrFieldsUptoRow : OpenClaim := { program := "ytblaldahhhokmaadoor", sum := "453157cc7c151eac541fad4c39d38ebe1a116b41004a62eca30bbcd325f681fe", func := "loop.example/pub-g01460/laws.FnStrFields", spec := "fnStrFields", unfollowed := true, recurses := true, named := ["loop.example/pub-g01460/pub/gostrings.asciiSpace", "unicode.White_Space"], apart := false, laid := [("unicode.White_Space", laid_unicode_White_Space), ("loop.example/pub-g01460/pub/gostrings.asciiSpace", laid_loop_example_pub_g01460_pub_gostrings_asciiSpace)], narrowed := true }
def FnStrFieldsUptoSaid : Prop := fnStrFieldsUptoRow.holds Tryd.pinned (OpenSpec.upto fnStrFieldsSpec)

/-- 'laws.FnStrTrimSpace', WHERE WHAT IT READS IS OF BULK AT MOST 1048576: true; the input reads as it did. -/
def fnStrTrimSpaceUptoRow : OpenClaim := { program := "ytblaldahhhokmaadoor", sum := "453157cc7c151eac541fad4c39d38ebe1a116b41004a62eca30bbcd325f681fe", func := "loop.example/pub-g01460/laws.FnStrTrimSpace", spec := "fnStrTrimSpace", unfollowed := true, recurses := true, named := ["loop.example/pub-g01460/pub/gostrings.asciiSpace", "unicode/utf8.first", "unicode/utf8.acceptRanges", "unicode.White_Space"], apart := false, laid := [("unicode/utf8.acceptRanges", laid_unicode_utf8_acceptRanges), ("unicode.White_Space", laid_unicode_White_Space), ("loop.example/pub-g01460/pub/gostrings.asciiSpace", laid_loop_example_pub_g01460_pub_gostrings_asciiSpace), ("unicode/utf8.first", laid_unicode_utf8_first)], narrowed := true }
def FnStrTrimSpaceUptoSaid : Prop := fnStrTrimSpaceUptoRow.holds Tryd.pinned (OpenSpec.upto fnStrTrimSpaceSpec)

/-- 'laws.FnStrSplit', WHERE WHAT IT READS IS OF BULK AT MOST 1048576: true; the input reads as it did. -/
def fnStrSplitUptoRow : OpenClaim := { program := "ytblaldahhhokmaadoor", sum := "453157cc7c151eac541fad4c39d38ebe1a116b41004a62eca30bbcd325f681fe", func := "loop.example/pub-g01460/laws.FnStrSplit", spec := "fnStrSplit", named := ["unicode/utf8.first", "unicode/utf8.acceptRanges"], apart := false, laid := [("unicode/utf8.acceptRanges", laid_unicode_utf8_acceptRanges), ("unicode/utf8.first", laid_unicode_utf8_first)], narrowed := true }
def FnStrSplitUptoSaid : Prop := fnStrSplitUptoRow.holds Tryd.pinned (OpenSpec.upto fnStrSplitSpec)

/-- 'laws.FnStrSplitN', WHERE WHAT IT READS IS OF BULK AT MOST 1048576: true; the input reads as it did. -/
def fnStrSplitNUptoRow : OpenClaim := { program := "ytblaldahhhokmaadoor", sum := "453157cc7c151eac541fad4c39d38ebe1a116b41004a62eca30bbcd325f681fe", func := "loop.example/pub-g01460/laws.FnStrSplitN", spec := "fnStrSplitN", named := ["unicode/utf8.first", "unicode/utf8.acceptRanges"], apart := false, laid := [("unicode/utf8.acceptRanges", laid_unicode_utf8_acceptRanges), ("unicode/utf8.first", laid_unicode_utf8_first)], narrowed := true }
def FnStrSplitNUptoSaid : Prop := fnStrSplitNUptoRow.holds Tryd.pinned (OpenSpec.upto fnStrSplitNSpec)

/-- 'laws.FnSplitTwo', WHERE WHAT IT READS IS OF BULK AT MOST 1048576: true; the input reads as it did. -/
def fnSplitTwoUptoRow : OpenClaim := { program := "ytblaldahhhokmaadoor", sum := "453157cc7c151eac541fad4c39d38ebe1a116b41004a62eca30bbcd325f681fe", func := "loop.example/pub-g01460/laws.FnSplitTwo", spec := "fnSplitTwo", named := ["unicode/utf8.first", "unicode/utf8.acceptRanges"], apart := false, laid := [("unicode/utf8.acceptRanges", laid_unicode_utf8_acceptRanges), ("unicode/utf8.first", laid_unicode_utf8_first)], narrowed := true }
def FnSplitTwoUptoSaid : Prop := fnSplitTwoUptoRow.holds Tryd.pinned (OpenSpec.upto fnSplitTwoSpec)

/-- 'laws.FnFieldsJoin', WHERE WHAT IT READS IS OF BULK AT MOST 1048576: true; the input reads as it did. -/
def fnFieldsJoinUptoRow : OpenClaim := { program := "ytblaldahhhokmaadoor", sum := "453157cc7c151eac541fad4c39d38ebe1a116b41004a62eca30bbcd325f681fe", func := "loop.example/pub-g01460/laws.FnFieldsJoin", spec := "fnFieldsJoin", inPlace := ["internal/abi.NoEscape", "internal/bytealg.MakeNoZero"], unfollowed := true, recurses := true, named := ["loop.example/pub-g01460/pub/gostrings.asciiSpace", "unicode.White_Space"], apart := false, laid := [("unicode.White_Space", laid_unicode_White_Space), ("loop.example/pub-g01460/pub/gostrings.asciiSpace", laid_loop_example_pub_g01460_pub_gostrings_asciiSpace)], narrowed := true }
def FnFieldsJoinUptoSaid : Prop := fnFieldsJoinUptoRow.holds Tryd.pinned (OpenSpec.upto fnFieldsJoinSpec)

/-- 'laws.FnStrReplaceAll', WHERE WHAT IT READS IS OF BULK AT MOST 1048576: true; the input reads as it did. -/
def fnStrReplaceAllUptoRow : OpenClaim := { program := "ytblaldahhhokmaadoor", sum := "453157cc7c151eac541fad4c39d38ebe1a116b41004a62eca30bbcd325f681fe", func := "loop.example/pub-g01460/laws.FnStrReplaceAll", spec := "fnStrReplaceAll", inPlace := ["internal/abi.NoEscape", "internal/bytealg.MakeNoZero"], named := ["unicode/utf8.first", "unicode/utf8.acceptRanges"], apart := false, laid := [("unicode/utf8.acceptRanges", laid_unicode_utf8_acceptRanges), ("unicode/utf8.first", laid_unicode_utf8_first)], narrowed := true }
def FnStrReplaceAllUptoSaid : Prop := fnStrReplaceAllUptoRow.holds Tryd.pinned (OpenSpec.upto fnStrReplaceAllSpec)

/-- 'laws.FnStrIndexAnyBytesCandidate', WHERE WHAT IT READS IS OF BULK AT MOST 1048576: true; the input reads as it did. -/
def fnStrIndexAnyBytesCandidateUptoRow : OpenClaim := { program := "ytblaldahhhokmaadoor", sum := "453157cc7c151eac541fad4c39d38ebe1a116b41004a62eca30bbcd325f681fe", func := "loop.example/pub-g01460/laws.FnStrIndexAnyBytesCandidate", spec := "fnStrIndexAnyBytesCandidate", named := ["unicode/utf8.first", "unicode/utf8.acceptRanges"], apart := false, laid := [("unicode/utf8.acceptRanges", laid_unicode_utf8_acceptRanges), ("unicode/utf8.first", laid_unicode_utf8_first)], narrowed := true }
def FnStrIndexAnyBytesCandidateUptoSaid : Prop := fnStrIndexAnyBytesCandidateUptoRow.holds Tryd.pinned (OpenSpec.upto fnStrIndexAnyBytesCandidateSpec)

/-- 'laws.FnStrSplitSeq', WHERE WHAT IT READS IS OF BULK AT MOST 1048576: true; the input reads as it did. -/
def fnStrSplitSeqUptoRow : OpenClaim := { program := "ytblaldahhhokmaadoor", sum := "453157cc7c151eac541fad4c39d38ebe1a116b41004a62eca30bbcd325f681fe", func := "loop.example/pub-g01460/laws.FnStrSplitSeq", spec := "fnStrSplitSeq", unfollowed := true, recurses := true, named := ["unicode/utf8.first", "unicode/utf8.acceptRanges"], apart := false, laid := [("unicode/utf8.acceptRanges", laid_unicode_utf8_acceptRanges), ("unicode/utf8.first", laid_unicode_utf8_first)], narrowed := true }
def FnStrSplitSeqUptoSaid : Prop := fnStrSplitSeqUptoRow.holds Tryd.pinned (OpenSpec.upto fnStrSplitSeqSpec)

/-- 'laws.FnSplitJoin', WHERE WHAT IT READS IS OF BULK AT MOST 1048576: true; the input reads as it did. -/
def fnSplitJoinUptoRow : OpenClaim := { program := "ytblaldahhhokmaadoor", sum := "453157cc7c151eac541fad4c39d38ebe1a116b41004a62eca30bbcd325f681fe", func := "loop.example/pub-g01460/laws.FnSplitJoin", spec := "fnSplitJoin", inPlace := ["internal/abi.NoEscape", "internal/bytealg.MakeNoZero"], named := ["unicode/utf8.first", "unicode/utf8.acceptRanges"], apart := false, laid := [("unicode/utf8.acceptRanges", laid_unicode_utf8_acceptRanges), ("unicode/utf8.first", laid_unicode_utf8_first)], narrowed := true }
def FnSplitJoinUptoSaid : Prop := fnSplitJoinUptoRow.holds Tryd.pinned (OpenSpec.upto fnSplitJoinSpec)

/-- 'laws.FnReplaceSplit', WHERE WHAT IT READS IS OF BULK AT MOST 1048576: true; the input reads as it did. -/
def fnReplaceSplitUptoRow : OpenClaim := { program := "ytblaldahhhokmaadoor", sum := "453157cc7c151eac541fad4c39d38ebe1a116b41004a62eca30bbcd325f681fe", func := "loop.example/pub-g01460/laws.FnReplaceSplit", spec := "fnReplaceSplit", inPlace := ["internal/abi.NoEscape", "internal/bytealg.MakeNoZero"], named := ["unicode/utf8.first", "unicode/utf8.acceptRanges"], apart := false, laid := [("unicode/utf8.acceptRanges", laid_unicode_utf8_acceptRanges), ("unicode/utf8.first", laid_unicode_utf8_first)], narrowed := true }
def FnReplaceSplitUptoSaid : Prop := fnReplaceSplitUptoRow.holds Tryd.pinned (OpenSpec.upto fnReplaceSplitSpec)

end Rows
end Go.Proofs.YtblaldahhhokmaaDoor

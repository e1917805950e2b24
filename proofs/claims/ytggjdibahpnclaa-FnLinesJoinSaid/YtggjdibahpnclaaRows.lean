/-
  No cell of these rows narrows 'for every input' (looked for: loops, veiled, ifaces, maps, wideKeys, modest, calm, conditions, laid).
  DERIVED. THE GIVEN ROWS OF THIS SEAT. 12 by the template 'for every input the law returns true; each argument reads behind the call as it read before'; 0 by the template 'total and deterministic' (their statements: YtggjdibahpnclaaTotals.lean).
  GIVEN WITH THE SEED: the statements are not yours to turn. If you find one false, say at which input.
  Laid BY PROGRAM, IN A SANDBOX (cutbox-rows.mjs): the forced cells as the released guide's own fill.sh prints them over the translation 30a9462ea4e08c05… (all of the seat's roots in one cut). By AI agents, Wed Nov 11 2026. No macro, syntax, notation, axiom, sorry.
-/
import Derived.Test.YtggjdibahpnclaaChecked
import GoSem.Claim
import GoSem.ClaimJoined
import GoSem.ClaimMapViews
import Derived.JoinedTies
import Derived.KernelRfl
namespace Go.Proofs.Ytggjdibahpnclaa
/- THE CELL 'sum', in the pinned program and in every row, IS THE sha256 OF THE DUMP (.gsa) THAT YtggjdibahpnclaaProg.lean LOADS. Nothing in Lean hashes anything: it is a label: what it is worth is what the hold of that sum in a sandbox is worth. -/
noncomputable def Try.pinned : Pinned := { name := "ytggjdibahpnclaa", sum := "30a9462ea4e08c056e911e4b457502250e3e1dfc5adb9439b4c192c4b504e1b7", checked := Try.checked }
namespace Rows
def none {H : Type} : Left H := { results := [], args := [] }

/-- 'laws.FnAlgEqual': WHATEVER THE INPUT: true; the input reads as it did. -/
def fnAlgEqualSpec : ChangeSpec := { name := "fnAlgEqual", fn := fun _ => fun
  | [d1, d2] => { results := [.lit (.bool true)], args := [d1, d2] }
  | _ => none }
def fnAlgEqualRow : OpenClaim := { program := "ytggjdibahpnclaa", sum := "30a9462ea4e08c056e911e4b457502250e3e1dfc5adb9439b4c192c4b504e1b7", func := "loop.example/pub-g01460/laws.FnAlgEqual", spec := "fnAlgEqual", apart := false }
def FnAlgEqualSaid : Prop := fnAlgEqualRow.holds Try.pinned (OpenSpec.ofChange fnAlgEqualSpec)

/-- ITS FALSE NEIGHBOUR: 'it returns false'. Refute it at one input. -/
def fnAlgEqualWrong : ChangeSpec := { name := "fnAlgEqual", fn := fun _ => fun
  | [d1, d2] => { results := [.lit (.bool false)], args := [d1, d2] }
  | _ => none }
def FnAlgEqualWrongFalsely : Prop := fnAlgEqualRow.holds Try.pinned (OpenSpec.ofChange fnAlgEqualWrong)

/-- 'laws.FnStrIndexByte': WHATEVER THE INPUT: true; the input reads as it did. -/
def fnStrIndexByteSpec : ChangeSpec := { name := "fnStrIndexByte", fn := fun _ => fun
  | [d1, d2] => { results := [.lit (.bool true)], args := [d1, d2] }
  | _ => none }
def fnStrIndexByteRow : OpenClaim := { program := "ytggjdibahpnclaa", sum := "30a9462ea4e08c056e911e4b457502250e3e1dfc5adb9439b4c192c4b504e1b7", func := "loop.example/pub-g01460/laws.FnStrIndexByte", spec := "fnStrIndexByte", apart := false }
def FnStrIndexByteSaid : Prop := fnStrIndexByteRow.holds Try.pinned (OpenSpec.ofChange fnStrIndexByteSpec)

/-- ITS FALSE NEIGHBOUR: 'it returns false'. Refute it at one input. -/
def fnStrIndexByteWrong : ChangeSpec := { name := "fnStrIndexByte", fn := fun _ => fun
  | [d1, d2] => { results := [.lit (.bool false)], args := [d1, d2] }
  | _ => none }
def FnStrIndexByteWrongFalsely : Prop := fnStrIndexByteRow.holds Try.pinned (OpenSpec.ofChange fnStrIndexByteWrong)

/-- 'laws.FnHashRoll': WHATEVER THE INPUT: true; the input reads as it did. -/
def fnHashRollSpec : ChangeSpec := { name := "fnHashRoll", fn := fun _ => fun
  | [d1, d2, d3] => { results := [.lit (.bool true)], args := [d1, d2, d3] }
  | _ => none }
def fnHashRollRow : OpenClaim := { program := "ytggjdibahpnclaa", sum := "30a9462ea4e08c056e911e4b457502250e3e1dfc5adb9439b4c192c4b504e1b7", func := "loop.example/pub-g01460/laws.FnHashRoll", spec := "fnHashRoll", apart := false }
def FnHashRollSaid : Prop := fnHashRollRow.holds Try.pinned (OpenSpec.ofChange fnHashRollSpec)

/-- ITS FALSE NEIGHBOUR: 'it returns false'. Refute it at one input. -/
def fnHashRollWrong : ChangeSpec := { name := "fnHashRoll", fn := fun _ => fun
  | [d1, d2, d3] => { results := [.lit (.bool false)], args := [d1, d2, d3] }
  | _ => none }
def FnHashRollWrongFalsely : Prop := fnHashRollRow.holds Try.pinned (OpenSpec.ofChange fnHashRollWrong)

/-- 'laws.FnAlgCount': WHATEVER THE INPUT: true; the input reads as it did. -/
def fnAlgCountSpec : ChangeSpec := { name := "fnAlgCount", fn := fun _ => fun
  | [d1, d2] => { results := [.lit (.bool true)], args := [d1, d2] }
  | _ => none }
def fnAlgCountRow : OpenClaim := { program := "ytggjdibahpnclaa", sum := "30a9462ea4e08c056e911e4b457502250e3e1dfc5adb9439b4c192c4b504e1b7", func := "loop.example/pub-g01460/laws.FnAlgCount", spec := "fnAlgCount", apart := false }
def FnAlgCountSaid : Prop := fnAlgCountRow.holds Try.pinned (OpenSpec.ofChange fnAlgCountSpec)

/-- ITS FALSE NEIGHBOUR: 'it returns false'. Refute it at one input. -/
def fnAlgCountWrong : ChangeSpec := { name := "fnAlgCount", fn := fun _ => fun
  | [d1, d2] => { results := [.lit (.bool false)], args := [d1, d2] }
  | _ => none }
def FnAlgCountWrongFalsely : Prop := fnAlgCountRow.holds Try.pinned (OpenSpec.ofChange fnAlgCountWrong)

/-- 'laws.FnStrLines': WHATEVER THE INPUT: true; the input reads as it did. -/
def fnStrLinesSpec : ChangeSpec := { name := "fnStrLines", fn := fun _ => fun
  | [d] => { results := [.lit (.bool true)], args := [d] }
  | _ => none }
def fnStrLinesRow : OpenClaim := { program := "ytggjdibahpnclaa", sum := "30a9462ea4e08c056e911e4b457502250e3e1dfc5adb9439b4c192c4b504e1b7", func := "loop.example/pub-g01460/laws.FnStrLines", spec := "fnStrLines", unfollowed := true, recurses := true, apart := false }
def FnStrLinesSaid : Prop := fnStrLinesRow.holds Try.pinned (OpenSpec.ofChange fnStrLinesSpec)

/-- ITS FALSE NEIGHBOUR: 'it returns false'. Refute it at one input. -/
def fnStrLinesWrong : ChangeSpec := { name := "fnStrLines", fn := fun _ => fun
  | [d] => { results := [.lit (.bool false)], args := [d] }
  | _ => none }
def FnStrLinesWrongFalsely : Prop := fnStrLinesRow.holds Try.pinned (OpenSpec.ofChange fnStrLinesWrong)

/-- 'laws.FnBytIndexByte': WHATEVER THE INPUT: true; the input reads as it did. -/
def fnBytIndexByteSpec : ChangeSpec := { name := "fnBytIndexByte", fn := fun _ => fun
  | [d1, d2] => { results := [.lit (.bool true)], args := [d1, d2] }
  | _ => none }
def fnBytIndexByteRow : OpenClaim := { program := "ytggjdibahpnclaa", sum := "30a9462ea4e08c056e911e4b457502250e3e1dfc5adb9439b4c192c4b504e1b7", func := "loop.example/pub-g01460/laws.FnBytIndexByte", spec := "fnBytIndexByte", apart := false }
def FnBytIndexByteSaid : Prop := fnBytIndexByteRow.holds Try.pinned (OpenSpec.ofChange fnBytIndexByteSpec)

/-- ITS FALSE NEIGHBOUR: 'it returns false'. Refute it at one input. -/
def fnBytIndexByteWrong : ChangeSpec := { name := "fnBytIndexByte", fn := fun _ => fun
  | [d1, d2] => { results := [.lit (.bool false)], args := [d1, d2] }
  | _ => none }
def FnBytIndexByteWrongFalsely : Prop := fnBytIndexByteRow.holds Try.pinned (OpenSpec.ofChange fnBytIndexByteWrong)

/-- 'laws.FnRabinKarp': WHATEVER THE INPUT: true; the input reads as it did. -/
def fnRabinKarpSpec : ChangeSpec := { name := "fnRabinKarp", fn := fun _ => fun
  | [d1, d2] => { results := [.lit (.bool true)], args := [d1, d2] }
  | _ => none }
def fnRabinKarpRow : OpenClaim := { program := "ytggjdibahpnclaa", sum := "30a9462ea4e08c056e911e4b457502250e3e1dfc5adb9439b4c192c4b504e1b7", func := "loop.example/pub-g01460/laws.FnRabinKarp", spec := "fnRabinKarp", apart := false }
def FnRabinKarpSaid : Prop := fnRabinKarpRow.holds Try.pinned (OpenSpec.ofChange fnRabinKarpSpec)

/-- ITS FALSE NEIGHBOUR: 'it returns false'. Refute it at one input. -/
def fnRabinKarpWrong : ChangeSpec := { name := "fnRabinKarp", fn := fun _ => fun
  | [d1, d2] => { results := [.lit (.bool false)], args := [d1, d2] }
  | _ => none }
def FnRabinKarpWrongFalsely : Prop := fnRabinKarpRow.holds Try.pinned (OpenSpec.ofChange fnRabinKarpWrong)

/-- 'laws.FnStrEnds': WHATEVER THE INPUT: true; the input reads as it did. -/
def fnStrEndsSpec : ChangeSpec := { name := "fnStrEnds", fn := fun _ => fun
  | [d1, d2] => { results := [.lit (.bool true)], args := [d1, d2] }
  | _ => none }
def fnStrEndsRow : OpenClaim := { program := "ytggjdibahpnclaa", sum := "30a9462ea4e08c056e911e4b457502250e3e1dfc5adb9439b4c192c4b504e1b7", func := "loop.example/pub-g01460/laws.FnStrEnds", spec := "fnStrEnds", apart := false }
def FnStrEndsSaid : Prop := fnStrEndsRow.holds Try.pinned (OpenSpec.ofChange fnStrEndsSpec)

/-- ITS FALSE NEIGHBOUR: 'it returns false'. Refute it at one input. -/
def fnStrEndsWrong : ChangeSpec := { name := "fnStrEnds", fn := fun _ => fun
  | [d1, d2] => { results := [.lit (.bool false)], args := [d1, d2] }
  | _ => none }
def FnStrEndsWrongFalsely : Prop := fnStrEndsRow.holds Try.pinned (OpenSpec.ofChange fnStrEndsWrong)

/-- 'laws.FnStrIndex': WHATEVER THE INPUT: true; the input reads as it did. -/
def fnStrIndexSpec : ChangeSpec := { name := "fnStrIndex", fn := fun _ => fun
  | [d1, d2] => { results := [.lit (.bool true)], args := [d1, d2] }
  | _ => none }
def fnStrIndexRow : OpenClaim := { program := "ytggjdibahpnclaa", sum := "30a9462ea4e08c056e911e4b457502250e3e1dfc5adb9439b4c192c4b504e1b7", func := "loop.example/pub-g01460/laws.FnStrIndex", spec := "fnStrIndex", apart := false }
def FnStrIndexSaid : Prop := fnStrIndexRow.holds Try.pinned (OpenSpec.ofChange fnStrIndexSpec)

/-- ITS FALSE NEIGHBOUR: 'it returns false'. Refute it at one input. -/
def fnStrIndexWrong : ChangeSpec := { name := "fnStrIndex", fn := fun _ => fun
  | [d1, d2] => { results := [.lit (.bool false)], args := [d1, d2] }
  | _ => none }
def FnStrIndexWrongFalsely : Prop := fnStrIndexRow.holds Try.pinned (OpenSpec.ofChange fnStrIndexWrong)

/-- 'laws.FnStrCut': WHATEVER THE INPUT: true; the input reads as it did. -/
def fnStrCutSpec : ChangeSpec := { name := "fnStrCut", fn := fun _ => fun
  | [d1, d2] => { results := [.lit (.bool true)], args := [d1, d2] }
  | _ => none }
def fnStrCutRow : OpenClaim := { program := "ytggjdibahpnclaa", sum := "30a9462ea4e08c056e911e4b457502250e3e1dfc5adb9439b4c192c4b504e1b7", func := "loop.example/pub-g01460/laws.FnStrCut", spec := "fnStrCut", apart := false }
def FnStrCutSaid : Prop := fnStrCutRow.holds Try.pinned (OpenSpec.ofChange fnStrCutSpec)

/-- ITS FALSE NEIGHBOUR: 'it returns false'. Refute it at one input. -/
def fnStrCutWrong : ChangeSpec := { name := "fnStrCut", fn := fun _ => fun
  | [d1, d2] => { results := [.lit (.bool false)], args := [d1, d2] }
  | _ => none }
def FnStrCutWrongFalsely : Prop := fnStrCutRow.holds Try.pinned (OpenSpec.ofChange fnStrCutWrong)

/-- 'laws.FnIndexCut': WHATEVER THE INPUT: true; the input reads as it did. -/
def fnIndexCutSpec : ChangeSpec := { name := "fnIndexCut", fn := fun _ => fun
  | [d1, d2] => { results := [.lit (.bool true)], args := [d1, d2] }
  | _ => none }
def fnIndexCutRow : OpenClaim := { program := "ytggjdibahpnclaa", sum := "30a9462ea4e08c056e911e4b457502250e3e1dfc5adb9439b4c192c4b504e1b7", func := "loop.example/pub-g01460/laws.FnIndexCut", spec := "fnIndexCut", apart := false }
def FnIndexCutSaid : Prop := fnIndexCutRow.holds Try.pinned (OpenSpec.ofChange fnIndexCutSpec)

/-- ITS FALSE NEIGHBOUR: 'it returns false'. Refute it at one input. -/
def fnIndexCutWrong : ChangeSpec := { name := "fnIndexCut", fn := fun _ => fun
  | [d1, d2] => { results := [.lit (.bool false)], args := [d1, d2] }
  | _ => none }
def FnIndexCutWrongFalsely : Prop := fnIndexCutRow.holds Try.pinned (OpenSpec.ofChange fnIndexCutWrong)

/-- 'laws.FnLinesJoin': WHATEVER THE INPUT: true; the input reads as it did. -/
def fnLinesJoinSpec : ChangeSpec := { name := "fnLinesJoin", fn := fun _ => fun
  | [d] => { results := [.lit (.bool true)], args := [d] }
  | _ => none }
def fnLinesJoinRow : OpenClaim := { program := "ytggjdibahpnclaa", sum := "30a9462ea4e08c056e911e4b457502250e3e1dfc5adb9439b4c192c4b504e1b7", func := "loop.example/pub-g01460/laws.FnLinesJoin", spec := "fnLinesJoin", inPlace := ["internal/abi.NoEscape", "internal/bytealg.MakeNoZero"], unfollowed := true, recurses := true, apart := false }
def FnLinesJoinSaid : Prop := fnLinesJoinRow.holds Try.pinned (OpenSpec.ofChange fnLinesJoinSpec)

/-- ITS FALSE NEIGHBOUR: 'it returns false'. Refute it at one input. -/
def fnLinesJoinWrong : ChangeSpec := { name := "fnLinesJoin", fn := fun _ => fun
  | [d] => { results := [.lit (.bool false)], args := [d] }
  | _ => none }
def FnLinesJoinWrongFalsely : Prop := fnLinesJoinRow.holds Try.pinned (OpenSpec.ofChange fnLinesJoinWrong)

/- THE SECOND FORM. 'bulk': how many values and letters a reading holds, each counted each time it is reached (what is shared counts as often as it is met; a slice's spare places count too). A statement '..UptoSaid' is the law's where the arguments, and the package variables that the reading takes, are together of bulk at most 1048576: NARROWER than '..Said'. Prove '..Said' where nothing that the law and all that it calls make is longer than what came in: it says more and counts as full. Else prove '..UptoSaid'. A law counts once. -/
mutual
def uptoBulk {H : Type} : DataW H → Nat
  | .lit (.string bytes) => bytes.length + 1
  | .lit _ => 1
  | .nil => 1
  | .ptr d => uptoBulk d + 1
  | .slice elems spare => uptoBulkAll elems + uptoBulkAll spare + 1
  | .agg parts => uptoBulkAll parts + 1
  | .iface _ d => uptoBulk d + 1
  | .map entries => uptoBulkEntries entries + 1
  | .held _ => 1
def uptoBulkAll {H : Type} : List (DataW H) → Nat
  | [] => 0
  | d :: r => uptoBulk d + uptoBulkAll r
def uptoBulkEntries {H : Type} : List (Lit × DataW H) → Nat
  | [] => 0
  | x :: r => uptoBulkEntry x + uptoBulkEntries r
def uptoBulkEntry {H : Type} : Lit × DataW H → Nat
  | (.string bytes, d) => bytes.length + uptoBulk d + 1
  | (_, d) => uptoBulk d + 1
 end
def uptoSmall : (H : Type) → List (DataW H) → Bool := fun _ ds => decide (uptoBulkAll ds ≤ 1048576)
def OpenSpec.upto (s : _root_.Go.ChangeSpec) : _root_.Go.OpenSpec := { _root_.Go.OpenSpec.ofChange s with cond := some uptoSmall }

/-- 'laws.FnAlgEqual', WHERE WHAT IT READS IS OF BULK AT MOST 1048576: true; the input reads as it did. -/
def fnAlgEqualUptoRow : OpenClaim := { program := "ytggjdibahpnclaa", sum := "30a9462ea4e08c056e911e4b457502250e3e1dfc5adb9439b4c192c4b504e1b7", func := "loop.example/pub-g01460/laws.FnAlgEqual", spec := "fnAlgEqual", apart := false, narrowed := true }
def FnAlgEqualUptoSaid : Prop := fnAlgEqualUptoRow.holds Try.pinned (OpenSpec.upto fnAlgEqualSpec)

/-- 'laws.FnStrIndexByte', WHERE WHAT IT READS IS OF BULK AT MOST 1048576: true; the input reads as it did. -/
def fnStrIndexByteUptoRow : OpenClaim := { program := "ytggjdibahpnclaa", sum := "30a9462ea4e08c056e911e4b457502250e3e1dfc5adb9439b4c192c4b504e1b7", func := "loop.example/pub-g01460/laws.FnStrIndexByte", spec := "fnStrIndexByte", apart := false, narrowed := true }
def FnStrIndexByteUptoSaid : Prop := fnStrIndexByteUptoRow.holds Try.pinned (OpenSpec.upto fnStrIndexByteSpec)

/-- 'laws.FnHashRoll', WHERE WHAT IT READS IS OF BULK AT MOST 1048576: true; the input reads as it did. -/
def fnHashRollUptoRow : OpenClaim := { program := "ytggjdibahpnclaa", sum := "30a9462ea4e08c056e911e4b457502250e3e1dfc5adb9439b4c192c4b504e1b7", func := "loop.example/pub-g01460/laws.FnHashRoll", spec := "fnHashRoll", apart := false, narrowed := true }
def FnHashRollUptoSaid : Prop := fnHashRollUptoRow.holds Try.pinned (OpenSpec.upto fnHashRollSpec)

/-- 'laws.FnAlgCount', WHERE WHAT IT READS IS OF BULK AT MOST 1048576: true; the input reads as it did. -/
def fnAlgCountUptoRow : OpenClaim := { program := "ytggjdibahpnclaa", sum := "30a9462ea4e08c056e911e4b457502250e3e1dfc5adb9439b4c192c4b504e1b7", func := "loop.example/pub-g01460/laws.FnAlgCount", spec := "fnAlgCount", apart := false, narrowed := true }
def FnAlgCountUptoSaid : Prop := fnAlgCountUptoRow.holds Try.pinned (OpenSpec.upto fnAlgCountSpec)

/-- 'laws.FnStrLines', WHERE WHAT IT READS IS OF BULK AT MOST 1048576: true; the input reads as it did. -/
def fnStrLinesUptoRow : OpenClaim := { program := "ytggjdibahpnclaa", sum := "30a9462ea4e08c056e911e4b457502250e3e1dfc5adb9439b4c192c4b504e1b7", func := "loop.example/pub-g01460/laws.FnStrLines", spec := "fnStrLines", unfollowed := true, recurses := true, apart := false, narrowed := true }
def FnStrLinesUptoSaid : Prop := fnStrLinesUptoRow.holds Try.pinned (OpenSpec.upto fnStrLinesSpec)

/-- 'laws.FnBytIndexByte', WHERE WHAT IT READS IS OF BULK AT MOST 1048576: true; the input reads as it did. -/
def fnBytIndexByteUptoRow : OpenClaim := { program := "ytggjdibahpnclaa", sum := "30a9462ea4e08c056e911e4b457502250e3e1dfc5adb9439b4c192c4b504e1b7", func := "loop.example/pub-g01460/laws.FnBytIndexByte", spec := "fnBytIndexByte", apart := false, narrowed := true }
def FnBytIndexByteUptoSaid : Prop := fnBytIndexByteUptoRow.holds Try.pinned (OpenSpec.upto fnBytIndexByteSpec)

/-- 'laws.FnRabinKarp', WHERE WHAT IT READS IS OF BULK AT MOST 1048576: true; the input reads as it did. -/
def fnRabinKarpUptoRow : OpenClaim := { program := "ytggjdibahpnclaa", sum := "30a9462ea4e08c056e911e4b457502250e3e1dfc5adb9439b4c192c4b504e1b7", func := "loop.example/pub-g01460/laws.FnRabinKarp", spec := "fnRabinKarp", apart := false, narrowed := true }
def FnRabinKarpUptoSaid : Prop := fnRabinKarpUptoRow.holds Try.pinned (OpenSpec.upto fnRabinKarpSpec)

/-- 'laws.FnStrEnds', WHERE WHAT IT READS IS OF BULK AT MOST 1048576: true; the input reads as it did. -/
def fnStrEndsUptoRow : OpenClaim := { program := "ytggjdibahpnclaa", sum := "30a9462ea4e08c056e911e4b457502250e3e1dfc5adb9439b4c192c4b504e1b7", func := "loop.example/pub-g01460/laws.FnStrEnds", spec := "fnStrEnds", apart := false, narrowed := true }
def FnStrEndsUptoSaid : Prop := fnStrEndsUptoRow.holds Try.pinned (OpenSpec.upto fnStrEndsSpec)

/-- 'laws.FnStrIndex', WHERE WHAT IT READS IS OF BULK AT MOST 1048576: true; the input reads as it did. -/
def fnStrIndexUptoRow : OpenClaim := { program := "ytggjdibahpnclaa", sum := "30a9462ea4e08c056e911e4b457502250e3e1dfc5adb9439b4c192c4b504e1b7", func := "loop.example/pub-g01460/laws.FnStrIndex", spec := "fnStrIndex", apart := false, narrowed := true }
def FnStrIndexUptoSaid : Prop := fnStrIndexUptoRow.holds Try.pinned (OpenSpec.upto fnStrIndexSpec)

/-- 'laws.FnStrCut', WHERE WHAT IT READS IS OF BULK AT MOST 1048576: true; the input reads as it did. -/
def fnStrCutUptoRow : OpenClaim := { program := "ytggjdibahpnclaa", sum := "30a9462ea4e08c056e911e4b457502250e3e1dfc5adb9439b4c192c4b504e1b7", func := "loop.example/pub-g01460/laws.FnStrCut", spec := "fnStrCut", apart := false, narrowed := true }
def FnStrCutUptoSaid : Prop := fnStrCutUptoRow.holds Try.pinned (OpenSpec.upto fnStrCutSpec)

/-- 'laws.FnIndexCut', WHERE WHAT IT READS IS OF BULK AT MOST 1048576: true; the input reads as it did. -/
def fnIndexCutUptoRow : OpenClaim := { program := "ytggjdibahpnclaa", sum := "30a9462ea4e08c056e911e4b457502250e3e1dfc5adb9439b4c192c4b504e1b7", func := "loop.example/pub-g01460/laws.FnIndexCut", spec := "fnIndexCut", apart := false, narrowed := true }
def FnIndexCutUptoSaid : Prop := fnIndexCutUptoRow.holds Try.pinned (OpenSpec.upto fnIndexCutSpec)

/-- 'laws.FnLinesJoin', WHERE WHAT IT READS IS OF BULK AT MOST 1048576: true; the input reads as it did. -/
def fnLinesJoinUptoRow : OpenClaim := { program := "ytggjdibahpnclaa", sum := "30a9462ea4e08c056e911e4b457502250e3e1dfc5adb9439b4c192c4b504e1b7", func := "loop.example/pub-g01460/laws.FnLinesJoin", spec := "fnLinesJoin", inPlace := ["internal/abi.NoEscape", "internal/bytealg.MakeNoZero"], unfollowed := true, recurses := true, apart := false, narrowed := true }
def FnLinesJoinUptoSaid : Prop := fnLinesJoinUptoRow.holds Try.pinned (OpenSpec.upto fnLinesJoinSpec)

end Rows
end Go.Proofs.Ytggjdibahpnclaa

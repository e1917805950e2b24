/-
  No cell of these rows narrows 'for every input' (looked for: loops, veiled, ifaces, maps, wideKeys, modest, calm, conditions, laid).
  DERIVED. THE GIVEN ROWS OF THIS SEAT. 3 by the template 'for every input the law returns true; each argument reads behind the call as it read before'; 0 by the template 'total and deterministic' (their statements: YtblaldahhhokmaaTotals.lean).
  GIVEN WITH THE SEED: the statements are not yours to turn. If you find one false, say at which input.
  Laid BY PROGRAM, IN A SANDBOX (cutbox-rows.mjs): the forced cells as the released guide's own fill.sh prints them over the translation e9707de2d4a32924… (all of the seat's roots in one cut). By AI agents, Wed Nov 11 2026. No macro, syntax, notation, axiom, sorry.
-/
import Derived.Test.YtblaldahhhokmaaChecked
import GoSem.Claim
import GoSem.ClaimJoined
import GoSem.ClaimMapViews
import Derived.JoinedTies
import Derived.KernelRfl
namespace Go.Proofs.Ytblaldahhhokmaa
/- THE CELL 'sum', in the pinned program and in every row, IS THE sha256 OF THE DUMP (.gsa) THAT YtblaldahhhokmaaProg.lean LOADS. Nothing in Lean hashes anything: it is a label: what it is worth is what the hold of that sum in a sandbox is worth. -/
noncomputable def Try.pinned : Pinned := { name := "ytblaldahhhokmaa", sum := "e9707de2d4a3292474d620cdaec46355a34ca08ee4807565925581d7cc64c7f6", checked := Try.checked }
namespace Rows
def none {H : Type} : Left H := { results := [], args := [] }

/-- 'laws.FnStrIndexRune': WHATEVER THE INPUT: true; the input reads as it did. -/
def fnStrIndexRuneSpec : ChangeSpec := { name := "fnStrIndexRune", fn := fun _ => fun
  | [d1, d2] => { results := [.lit (.bool true)], args := [d1, d2] }
  | _ => none }
def fnStrIndexRuneRow : OpenClaim := { program := "ytblaldahhhokmaa", sum := "e9707de2d4a3292474d620cdaec46355a34ca08ee4807565925581d7cc64c7f6", func := "loop.example/pub-g01460/laws.FnStrIndexRune", spec := "fnStrIndexRune", apart := false }
def FnStrIndexRuneSaid : Prop := fnStrIndexRuneRow.holds Try.pinned (OpenSpec.ofChange fnStrIndexRuneSpec)

/-- ITS FALSE NEIGHBOUR: 'it returns false'. Refute it at one input. -/
def fnStrIndexRuneWrong : ChangeSpec := { name := "fnStrIndexRune", fn := fun _ => fun
  | [d1, d2] => { results := [.lit (.bool false)], args := [d1, d2] }
  | _ => none }
def FnStrIndexRuneWrongFalsely : Prop := fnStrIndexRuneRow.holds Try.pinned (OpenSpec.ofChange fnStrIndexRuneWrong)

/-- 'laws.FnStrIndexAny': WHATEVER THE INPUT: true; the input reads as it did. -/
def fnStrIndexAnySpec : ChangeSpec := { name := "fnStrIndexAny", fn := fun _ => fun
  | [d1, d2] => { results := [.lit (.bool true)], args := [d1, d2] }
  | _ => none }
def fnStrIndexAnyRow : OpenClaim := { program := "ytblaldahhhokmaa", sum := "e9707de2d4a3292474d620cdaec46355a34ca08ee4807565925581d7cc64c7f6", func := "loop.example/pub-g01460/laws.FnStrIndexAny", spec := "fnStrIndexAny", apart := false }
def FnStrIndexAnySaid : Prop := fnStrIndexAnyRow.holds Try.pinned (OpenSpec.ofChange fnStrIndexAnySpec)

/-- ITS FALSE NEIGHBOUR: 'it returns false'. Refute it at one input. -/
def fnStrIndexAnyWrong : ChangeSpec := { name := "fnStrIndexAny", fn := fun _ => fun
  | [d1, d2] => { results := [.lit (.bool false)], args := [d1, d2] }
  | _ => none }
def FnStrIndexAnyWrongFalsely : Prop := fnStrIndexAnyRow.holds Try.pinned (OpenSpec.ofChange fnStrIndexAnyWrong)

/-- 'laws.FnStrContainsAny': WHATEVER THE INPUT: true; the input reads as it did. -/
def fnStrContainsAnySpec : ChangeSpec := { name := "fnStrContainsAny", fn := fun _ => fun
  | [d1, d2] => { results := [.lit (.bool true)], args := [d1, d2] }
  | _ => none }
def fnStrContainsAnyRow : OpenClaim := { program := "ytblaldahhhokmaa", sum := "e9707de2d4a3292474d620cdaec46355a34ca08ee4807565925581d7cc64c7f6", func := "loop.example/pub-g01460/laws.FnStrContainsAny", spec := "fnStrContainsAny", apart := false }
def FnStrContainsAnySaid : Prop := fnStrContainsAnyRow.holds Try.pinned (OpenSpec.ofChange fnStrContainsAnySpec)

/-- ITS FALSE NEIGHBOUR: 'it returns false'. Refute it at one input. -/
def fnStrContainsAnyWrong : ChangeSpec := { name := "fnStrContainsAny", fn := fun _ => fun
  | [d1, d2] => { results := [.lit (.bool false)], args := [d1, d2] }
  | _ => none }
def FnStrContainsAnyWrongFalsely : Prop := fnStrContainsAnyRow.holds Try.pinned (OpenSpec.ofChange fnStrContainsAnyWrong)

/- THE SECOND FORM. 'bulk': how many values and letters a reading holds, each counted each time it is reached (what is shared counts as often as it is met; a slice's spare places count too). A statement '..UptoSaid' is the law's where the arguments, and the package variables that the reading takes, are together of bulk at most 1048576: NARROWER than '..Said'. Prove '..Said' where nothing that the law and all that it calls make is longer than what came in: it says more and counts as full. Else prove '..UptoSaid'. A law counts once. -/
mutual
def uptoBulk {H : Type} : DataW H → Nat
  | .lit (.string bytes) => bytes.length + 1
  | .lit _ => 1
  | .nil => 1
  | .ptr d => uptoBulk d + 1
  | .slice elems spare => uptoBulkAll elems + uptoBulkAll spare + 1
  | .agg parts => uptoBulkAll parts + 1
  | .iface _ d => uptoBulk d + 1
  | .map entries => uptoBulkEntries entries + 1
  | .held _ => 1
def uptoBulkAll {H : Type} : List (DataW H) → Nat
  | [] => 0
  | d :: r => uptoBulk d + uptoBulkAll r
def uptoBulkEntries {H : Type} : List (Lit × DataW H) → Nat
  | [] => 0
  | x :: r => uptoBulkEntry x + uptoBulkEntries r
def uptoBulkEntry {H : Type} : Lit × DataW H → Nat
  | (.string bytes, d) => bytes.length + uptoBulk d + 1
  | (_, d) => uptoBulk d + 1
 end
def uptoSmall : (H : Type) → List (DataW H) → Bool := fun _ ds => decide (uptoBulkAll ds ≤ 1048576)
def OpenSpec.upto (s : _root_.Go.ChangeSpec) : _root_.Go.OpenSpec := { _root_.Go.OpenSpec.ofChange s with cond := some uptoSmall }

/-- 'laws.FnStrIndexRune', WHERE WHAT IT READS IS OF BULK AT MOST 1048576: true; the input reads as it did. -/
def fnStrIndexRuneUptoRow : OpenClaim := { program := "ytblaldahhhokmaa", sum := "e9707de2d4a3292474d620cdaec46355a34ca08ee4807565925581d7cc64c7f6", func := "loop.example/pub-g01460/laws.FnStrIndexRune", spec := "fnStrIndexRune", apart := false, narrowed := true }
def FnStrIndexRuneUptoSaid : Prop := fnStrIndexRuneUptoRow.holds Try.pinned (OpenSpec.upto fnStrIndexRuneSpec)

/-- 'laws.FnStrIndexAny', WHERE WHAT IT READS IS OF BULK AT MOST 1048576: true; the input reads as it did. -/
def fnStrIndexAnyUptoRow : OpenClaim := { program := "ytblaldahhhokmaa", sum := "e9707de2d4a3292474d620cdaec46355a34ca08ee4807565925581d7cc64c7f6", func := "loop.example/pub-g01460/laws.FnStrIndexAny", spec := "fnStrIndexAny", apart := false, narrowed := true }
def FnStrIndexAnyUptoSaid : Prop := fnStrIndexAnyUptoRow.holds Try.pinned (OpenSpec.upto fnStrIndexAnySpec)

/-- 'laws.FnStrContainsAny', WHERE WHAT IT READS IS OF BULK AT MOST 1048576: true; the input reads as it did. -/
def fnStrContainsAnyUptoRow : OpenClaim := { program := "ytblaldahhhokmaa", sum := "e9707de2d4a3292474d620cdaec46355a34ca08ee4807565925581d7cc64c7f6", func := "loop.example/pub-g01460/laws.FnStrContainsAny", spec := "fnStrContainsAny", apart := false, narrowed := true }
def FnStrContainsAnyUptoSaid : Prop := fnStrContainsAnyUptoRow.holds Try.pinned (OpenSpec.upto fnStrContainsAnySpec)

end Rows
end Go.Proofs.Ytblaldahhhokmaa

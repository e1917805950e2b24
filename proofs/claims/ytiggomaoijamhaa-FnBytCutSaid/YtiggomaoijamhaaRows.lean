/-
  No cell of these rows narrows 'for every input' (looked for: loops, veiled, ifaces, maps, wideKeys, modest, calm, conditions, laid).
  DERIVED. THE GIVEN ROWS OF THIS SEAT. 4 by the template 'for every input the law returns true; each argument reads behind the call as it read before'; 0 by the template 'total and deterministic' (their statements: YtiggomaoijamhaaTotals.lean).
  GIVEN WITH THE SEED: the statements are not yours to turn. If you find one false, say at which input.
  Laid BY PROGRAM, IN A SANDBOX (cutbox-rows.mjs): the forced cells as the released guide's own fill.sh prints them over the translation 4340bd75fb9a82d0… (all of the seat's roots in one cut). By AI agents, Wed Nov 11 2026. No macro, syntax, notation, axiom, sorry.
-/
import Derived.Test.YtiggomaoijamhaaChecked
import GoSem.Claim
import GoSem.ClaimJoined
import GoSem.ClaimMapViews
import Derived.JoinedTies
import Derived.KernelRfl
namespace Go.Proofs.Ytiggomaoijamhaa
/- THE CELL 'sum', in the pinned program and in every row, IS THE sha256 OF THE DUMP (.gsa) THAT YtiggomaoijamhaaProg.lean LOADS. Nothing in Lean hashes anything: it is a label: what it is worth is what the hold of that sum in a sandbox is worth. -/
noncomputable def Try.pinned : Pinned := { name := "ytiggomaoijamhaa", sum := "4340bd75fb9a82d00d9a7dbd34e5ccb73f7d25cb0657a28f5658fdfa87d1ed81", checked := Try.checked }
namespace Rows
def none {H : Type} : Left H := { results := [], args := [] }

/-- 'laws.FnBytIndex': WHATEVER THE INPUT: true; the input reads as it did. -/
def fnBytIndexSpec : ChangeSpec := { name := "fnBytIndex", fn := fun _ => fun
  | [d1, d2] => { results := [.lit (.bool true)], args := [d1, d2] }
  | _ => none }
def fnBytIndexRow : OpenClaim := { program := "ytiggomaoijamhaa", sum := "4340bd75fb9a82d00d9a7dbd34e5ccb73f7d25cb0657a28f5658fdfa87d1ed81", func := "loop.example/pub-g01460/laws.FnBytIndex", spec := "fnBytIndex", apart := false }
def FnBytIndexSaid : Prop := fnBytIndexRow.holds Try.pinned (OpenSpec.ofChange fnBytIndexSpec)

/-- ITS FALSE NEIGHBOUR: 'it returns false'. Refute it at one input. -/
def fnBytIndexWrong : ChangeSpec := { name := "fnBytIndex", fn := fun _ => fun
  | [d1, d2] => { results := [.lit (.bool false)], args := [d1, d2] }
  | _ => none }
def FnBytIndexWrongFalsely : Prop := fnBytIndexRow.holds Try.pinned (OpenSpec.ofChange fnBytIndexWrong)

/-- 'laws.FnBytContains': WHATEVER THE INPUT: true; the input reads as it did. -/
def fnBytContainsSpec : ChangeSpec := { name := "fnBytContains", fn := fun _ => fun
  | [d1, d2] => { results := [.lit (.bool true)], args := [d1, d2] }
  | _ => none }
def fnBytContainsRow : OpenClaim := { program := "ytiggomaoijamhaa", sum := "4340bd75fb9a82d00d9a7dbd34e5ccb73f7d25cb0657a28f5658fdfa87d1ed81", func := "loop.example/pub-g01460/laws.FnBytContains", spec := "fnBytContains", apart := false }
def FnBytContainsSaid : Prop := fnBytContainsRow.holds Try.pinned (OpenSpec.ofChange fnBytContainsSpec)

/-- ITS FALSE NEIGHBOUR: 'it returns false'. Refute it at one input. -/
def fnBytContainsWrong : ChangeSpec := { name := "fnBytContains", fn := fun _ => fun
  | [d1, d2] => { results := [.lit (.bool false)], args := [d1, d2] }
  | _ => none }
def FnBytContainsWrongFalsely : Prop := fnBytContainsRow.holds Try.pinned (OpenSpec.ofChange fnBytContainsWrong)

/-- 'laws.FnRoads': WHATEVER THE INPUT: true; the input reads as it did. -/
def fnRoadsSpec : ChangeSpec := { name := "fnRoads", fn := fun _ => fun
  | [d1, d2] => { results := [.lit (.bool true)], args := [d1, d2] }
  | _ => none }
def fnRoadsRow : OpenClaim := { program := "ytiggomaoijamhaa", sum := "4340bd75fb9a82d00d9a7dbd34e5ccb73f7d25cb0657a28f5658fdfa87d1ed81", func := "loop.example/pub-g01460/laws.FnRoads", spec := "fnRoads", apart := false }
def FnRoadsSaid : Prop := fnRoadsRow.holds Try.pinned (OpenSpec.ofChange fnRoadsSpec)

/-- ITS FALSE NEIGHBOUR: 'it returns false'. Refute it at one input. -/
def fnRoadsWrong : ChangeSpec := { name := "fnRoads", fn := fun _ => fun
  | [d1, d2] => { results := [.lit (.bool false)], args := [d1, d2] }
  | _ => none }
def FnRoadsWrongFalsely : Prop := fnRoadsRow.holds Try.pinned (OpenSpec.ofChange fnRoadsWrong)

/-- 'laws.FnBytCut': WHATEVER THE INPUT: true; the input reads as it did. -/
def fnBytCutSpec : ChangeSpec := { name := "fnBytCut", fn := fun _ => fun
  | [d1, d2] => { results := [.lit (.bool true)], args := [d1, d2] }
  | _ => none }
def fnBytCutRow : OpenClaim := { program := "ytiggomaoijamhaa", sum := "4340bd75fb9a82d00d9a7dbd34e5ccb73f7d25cb0657a28f5658fdfa87d1ed81", func := "loop.example/pub-g01460/laws.FnBytCut", spec := "fnBytCut", apart := false }
def FnBytCutSaid : Prop := fnBytCutRow.holds Try.pinned (OpenSpec.ofChange fnBytCutSpec)

/-- ITS FALSE NEIGHBOUR: 'it returns false'. Refute it at one input. -/
def fnBytCutWrong : ChangeSpec := { name := "fnBytCut", fn := fun _ => fun
  | [d1, d2] => { results := [.lit (.bool false)], args := [d1, d2] }
  | _ => none }
def FnBytCutWrongFalsely : Prop := fnBytCutRow.holds Try.pinned (OpenSpec.ofChange fnBytCutWrong)

/- THE SECOND FORM. 'bulk': how many values and letters a reading holds, each counted each time it is reached (what is shared counts as often as it is met; a slice's spare places count too). A statement '..UptoSaid' is the law's where the arguments, and the package variables that the reading takes, are together of bulk at most 1048576: NARROWER than '..Said'. Prove '..Said' where nothing that the law and all that it calls make is longer than what came in: it says more and counts as full. Else prove '..UptoSaid'. A law counts once. -/
mutual
def uptoBulk {H : Type} : DataW H → Nat
  | .lit (.string bytes) => bytes.length + 1
  | .lit _ => 1
  | .nil => 1
  | .ptr d => uptoBulk d + 1
  | .slice elems spare => uptoBulkAll elems + uptoBulkAll spare + 1
  | .agg parts => uptoBulkAll parts + 1
  | .iface _ d => uptoBulk d + 1
  | .map entries => uptoBulkEntries entries + 1
  | .held _ => 1
def uptoBulkAll {H : Type} : List (DataW H) → Nat
  | [] => 0
  | d :: r => uptoBulk d + uptoBulkAll r
def uptoBulkEntries {H : Type} : List (Lit × DataW H) → Nat
  | [] => 0
  | x :: r => uptoBulkEntry x + uptoBulkEntries r
def uptoBulkEntry {H : Type} : Lit × DataW H → Nat
  | (.string bytes, d) => bytes.length + uptoBulk d + 1
  | (_, d) => uptoBulk d + 1
 end
def uptoSmall : (H : Type) → List (DataW H) → Bool := fun _ ds => decide (uptoBulkAll ds ≤ 1048576)
def OpenSpec.upto (s : _root_.Go.ChangeSpec) : _root_.Go.OpenSpec := { _root_.Go.OpenSpec.ofChange s with cond := some uptoSmall }

/-- 'laws.FnBytIndex', WHERE WHAT IT READS IS OF BULK AT MOST 1048576: true; the input reads as it did. -/
def fnBytIndexUptoRow : OpenClaim := { program := "ytiggomaoijamhaa", sum := "4340bd75fb9a82d00d9a7dbd34e5ccb73f7d25cb0657a28f5658fdfa87d1ed81", func := "loop.example/pub-g01460/laws.FnBytIndex", spec := "fnBytIndex", apart := false, narrowed := true }
def FnBytIndexUptoSaid : Prop := fnBytIndexUptoRow.holds Try.pinned (OpenSpec.upto fnBytIndexSpec)

/-- 'laws.FnBytContains', WHERE WHAT IT READS IS OF BULK AT MOST 1048576: true; the input reads as it did. -/
def fnBytContainsUptoRow : OpenClaim := { program := "ytiggomaoijamhaa", sum := "4340bd75fb9a82d00d9a7dbd34e5ccb73f7d25cb0657a28f5658fdfa87d1ed81", func := "loop.example/pub-g01460/laws.FnBytContains", spec := "fnBytContains", apart := false, narrowed := true }
def FnBytContainsUptoSaid : Prop := fnBytContainsUptoRow.holds Try.pinned (OpenSpec.upto fnBytContainsSpec)

/-- 'laws.FnRoads', WHERE WHAT IT READS IS OF BULK AT MOST 1048576: true; the input reads as it did. -/
def fnRoadsUptoRow : OpenClaim := { program := "ytiggomaoijamhaa", sum := "4340bd75fb9a82d00d9a7dbd34e5ccb73f7d25cb0657a28f5658fdfa87d1ed81", func := "loop.example/pub-g01460/laws.FnRoads", spec := "fnRoads", apart := false, narrowed := true }
def FnRoadsUptoSaid : Prop := fnRoadsUptoRow.holds Try.pinned (OpenSpec.upto fnRoadsSpec)

/-- 'laws.FnBytCut', WHERE WHAT IT READS IS OF BULK AT MOST 1048576: true; the input reads as it did. -/
def fnBytCutUptoRow : OpenClaim := { program := "ytiggomaoijamhaa", sum := "4340bd75fb9a82d00d9a7dbd34e5ccb73f7d25cb0657a28f5658fdfa87d1ed81", func := "loop.example/pub-g01460/laws.FnBytCut", spec := "fnBytCut", apart := false, narrowed := true }
def FnBytCutUptoSaid : Prop := fnBytCutUptoRow.holds Try.pinned (OpenSpec.upto fnBytCutSpec)

end Rows
end Go.Proofs.Ytiggomaoijamhaa

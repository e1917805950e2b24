/- The shelf's contract of unicode.IsSpace, laid at this program by name (genlays9.py). -/
import Derived.Shelf.Unicode.IsSpaceAnyD
import Derived.Shelf.GgClosure.GivesRunes
import Derived.Lib.LaidU8
import Derived.WalkSpells
import Derived.Test.YtpaieadnicmplaaDoorRows
set_option linter.unusedVariables false
namespace Go.Proofs.YtpaieadnicmplaaDoor
open Go.Shelf Go.RowKit
def r9 : Go.Shelf.Ren := ⟨fun | 199 => 47 | 261 => 59 | 311 => 67 | 312 => 68 | n => n, fun | 0 => 0 | 3 => 3 | 4 => 4 | 21 => 21 | 46 => 52 | 49 => 77 | 51 => 60 | 141 => 63 | 193 => 73 | 194 => 74 | 196 => 76 | 198 => 79 | 201 => 82 | 226 => 87 | 227 => 88 | n => n, fun | 6 => 1 | n => n⟩
theorem lay9_199 : Go.Proofs.Lays.n199 Tryd.prog r9 := {
  mixed := by kernel_rfl
  f199 := Tryd.func47.trans (congrArg some (by kernel_rfl))
  f261 := Tryd.func59.trans (congrArg some (by kernel_rfl))
  f311 := Tryd.func67.trans (congrArg some (by kernel_rfl))
  f312 := Tryd.func68.trans (congrArg some (by kernel_rfl))
  t0 := by kernel_rfl
  a0 := fun w => by kernel_rfl
  z0 := fun w => by kernel_rfl
  v0 := fun w => by kernel_rfl
  t3 := by kernel_rfl
  a3 := fun w => by kernel_rfl
  z3 := fun w => by kernel_rfl
  v3 := fun w => by kernel_rfl
  t4 := by kernel_rfl
  a4 := fun w => by kernel_rfl
  z4 := fun w => by kernel_rfl
  v4 := fun w => by kernel_rfl
  t21 := by kernel_rfl
  a21 := fun w => by kernel_rfl
  z21 := fun w => by kernel_rfl
  v21 := fun w => by kernel_rfl
  t46 := by kernel_rfl
  a46 := fun w => by kernel_rfl
  z46 := fun w => by kernel_rfl
  v46 := fun w => by kernel_rfl
  t49 := by kernel_rfl
  a49 := fun w => by kernel_rfl
  z49 := fun w => by kernel_rfl
  v49 := fun w => by kernel_rfl
  t51 := by kernel_rfl
  a51 := fun w => by kernel_rfl
  z51 := fun w => by kernel_rfl
  v51 := fun w => by kernel_rfl
  t141 := by kernel_rfl
  a141 := fun w => by kernel_rfl
  z141 := fun w => by kernel_rfl
  v141 := fun w => by kernel_rfl
  t193 := by kernel_rfl
  a193 := fun w => by kernel_rfl
  z193 := fun w => by kernel_rfl
  v193 := fun w => by kernel_rfl
  t194 := by kernel_rfl
  a194 := fun w => by kernel_rfl
  z194 := fun w => by kernel_rfl
  v194 := fun w => by kernel_rfl
  t196 := by kernel_rfl
  a196 := fun w => by kernel_rfl
  z196 := fun w => by kernel_rfl
  v196 := fun w => by kernel_rfl
  t198 := by kernel_rfl
  a198 := fun w => by kernel_rfl
  z198 := fun w => by kernel_rfl
  v198 := fun w => by kernel_rfl
  t201 := by kernel_rfl
  a201 := fun w => by kernel_rfl
  z201 := fun w => by kernel_rfl
  v201 := fun w => by kernel_rfl
  t226 := by kernel_rfl
  a226 := fun w => by kernel_rfl
  z226 := fun w => by kernel_rfl
  v226 := fun w => by kernel_rfl
  t227 := by kernel_rfl
  a227 := fun w => by kernel_rfl
  z227 := fun w => by kernel_rfl
  v227 := fun w => by kernel_rfl
  g6 := by kernel_rfl }
theorem x9 : WhiteExtra Tryd.prog r9 := {
  n6 := by kernel_rfl
  y6 := by kernel_rfl
  c3 := by kernel_rfl
  c49 := by kernel_rfl
  c193 := by kernel_rfl
  c194 := by kernel_rfl
  c196 := by kernel_rfl
  c198 := by kernel_rfl }
/-- The table of white space holds what its initialiser lays. -/
def White (w : World) : Prop := Lib.WhiteTab 1 w
theorem white_of {w : World} {l : List (String × DataW Unit)} (h : laidMet Tryd.prog l w) (h1 : ("unicode.White_Space", Lib.whiteData) ∈ l) : White w :=
  whiteTab_of_reads lay9_199 x9 (Lib.laidMet.reads h h1)
theorem White.below {w w' : World} (h : White w) (hb : Below w.heap.size w w') : White w' := WhiteTab_below h hb
theorem space_pays (w : World) (hW : White w) : PredAtRunes Tryd.prog 47 #[] Lib.isSpaceR w := fun W x hx hb => by
  have h := Any.unicode_IsSpace_any_d lay9_199 (x : Int) W (by omega) (by omega) (WhiteTab_below hW hb)
  rw [Lib.isSpaceZ_nat] at h
  exact h
theorem dSpace (r : Int) (w : World) (hlo : -2147483648 ≤ r) (hhi : r ≤ 2147483647) (hW : White w) :
    Calls Tryd.prog 47 #[.int .i32 r] w fun e w' => e = .returned (.bool (Lib.isSpaceZ r)) ∧ Below w.heap.size w w' := Any.unicode_IsSpace_any lay9_199 r w hlo hhi hW
end Go.Proofs.YtpaieadnicmplaaDoor

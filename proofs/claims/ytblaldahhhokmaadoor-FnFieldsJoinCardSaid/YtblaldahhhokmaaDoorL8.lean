/- The shelf's contracts of unicode/utf8's decoders, laid at this program by name (genlays8.py). -/
import Derived.Shelf.Unicode.DecodeAny
import Derived.Shelf.Unicode.DecodeLast
import Derived.Shelf.Utf8.RuneCount
import Derived.Lib.LaidU8
import Derived.PinnedBridge
import Derived.WalkSpells
import Derived.Test.YtblaldahhhokmaaDoorRows
set_option linter.unusedVariables false
namespace Go.Proofs.YtblaldahhhokmaaDoor
open Go.Shelf Go.RowKit
def r8 : Go.Shelf.Ren := ⟨fun | 120 => 83 | 195 => 89 | 197 => 72 | 260 => 88 | 271 => 67 | n => n, fun | 0 => 0 | 3 => 3 | 4 => 4 | 5 => 5 | 9 => 9 | 21 => 21 | 46 => 56 | 105 => 45 | 119 => 57 | 138 => 109 | 139 => 110 | n => n, fun | 3 => 2 | 4 => 3 | n => n⟩
theorem lay8_195 : Go.Proofs.Lays.n195 Tryd.prog r8 := {
  mixed := by kernel_rfl
  f195 := Tryd.func89.trans (congrArg some (by kernel_rfl))
  t0 := by kernel_rfl
  a0 := fun w => by kernel_rfl
  z0 := fun w => by kernel_rfl
  v0 := fun w => by kernel_rfl
  t3 := by kernel_rfl
  a3 := fun w => by kernel_rfl
  z3 := fun w => by kernel_rfl
  v3 := fun w => by kernel_rfl
  t4 := by kernel_rfl
  a4 := fun w => by kernel_rfl
  z4 := fun w => by kernel_rfl
  v4 := fun w => by kernel_rfl
  t9 := by kernel_rfl
  a9 := fun w => by kernel_rfl
  z9 := fun w => by kernel_rfl
  v9 := fun w => by kernel_rfl }
theorem lay8_197 : Go.Proofs.Lays.n197 Tryd.prog r8 := {
  mixed := by kernel_rfl
  f197 := Tryd.func72.trans (congrArg some (by kernel_rfl))
  f260 := Tryd.func88.trans (congrArg some (by kernel_rfl))
  t0 := by kernel_rfl
  a0 := fun w => by kernel_rfl
  z0 := fun w => by kernel_rfl
  v0 := fun w => by kernel_rfl
  t3 := by kernel_rfl
  a3 := fun w => by kernel_rfl
  z3 := fun w => by kernel_rfl
  v3 := fun w => by kernel_rfl
  t4 := by kernel_rfl
  a4 := fun w => by kernel_rfl
  z4 := fun w => by kernel_rfl
  v4 := fun w => by kernel_rfl
  t5 := by kernel_rfl
  a5 := fun w => by kernel_rfl
  z5 := fun w => by kernel_rfl
  v5 := fun w => by kernel_rfl
  t9 := by kernel_rfl
  a9 := fun w => by kernel_rfl
  z9 := fun w => by kernel_rfl
  v9 := fun w => by kernel_rfl
  t21 := by kernel_rfl
  a21 := fun w => by kernel_rfl
  z21 := fun w => by kernel_rfl
  v21 := fun w => by kernel_rfl
  t46 := by kernel_rfl
  a46 := fun w => by kernel_rfl
  z46 := fun w => by kernel_rfl
  v46 := fun w => by kernel_rfl
  t105 := by kernel_rfl
  a105 := fun w => by kernel_rfl
  z105 := fun w => by kernel_rfl
  v105 := fun w => by kernel_rfl
  t119 := by kernel_rfl
  a119 := fun w => by kernel_rfl
  z119 := fun w => by kernel_rfl
  t138 := by kernel_rfl
  a138 := fun w => by kernel_rfl
  z138 := fun w => by kernel_rfl
  v138 := fun w => by kernel_rfl
  t139 := by kernel_rfl
  a139 := fun w => by kernel_rfl
  z139 := fun w => by kernel_rfl
  v139 := fun w => by kernel_rfl
  g3 := by kernel_rfl
  g4 := by kernel_rfl }
theorem lay8_260 : Go.Proofs.Lays.n260 Tryd.prog r8 := {
  mixed := by kernel_rfl
  f260 := Tryd.func88.trans (congrArg some (by kernel_rfl))
  t0 := by kernel_rfl
  a0 := fun w => by kernel_rfl
  z0 := fun w => by kernel_rfl
  v0 := fun w => by kernel_rfl
  t3 := by kernel_rfl
  a3 := fun w => by kernel_rfl
  z3 := fun w => by kernel_rfl
  v3 := fun w => by kernel_rfl
  t4 := by kernel_rfl
  a4 := fun w => by kernel_rfl
  z4 := fun w => by kernel_rfl
  v4 := fun w => by kernel_rfl
  t5 := by kernel_rfl
  a5 := fun w => by kernel_rfl
  z5 := fun w => by kernel_rfl
  v5 := fun w => by kernel_rfl
  t9 := by kernel_rfl
  a9 := fun w => by kernel_rfl
  z9 := fun w => by kernel_rfl
  v9 := fun w => by kernel_rfl
  t21 := by kernel_rfl
  a21 := fun w => by kernel_rfl
  z21 := fun w => by kernel_rfl
  v21 := fun w => by kernel_rfl
  t46 := by kernel_rfl
  a46 := fun w => by kernel_rfl
  z46 := fun w => by kernel_rfl
  v46 := fun w => by kernel_rfl
  t119 := by kernel_rfl
  a119 := fun w => by kernel_rfl
  z119 := fun w => by kernel_rfl
  t138 := by kernel_rfl
  a138 := fun w => by kernel_rfl
  z138 := fun w => by kernel_rfl
  v138 := fun w => by kernel_rfl
  t139 := by kernel_rfl
  a139 := fun w => by kernel_rfl
  z139 := fun w => by kernel_rfl
  v139 := fun w => by kernel_rfl
  g3 := by kernel_rfl
  g4 := by kernel_rfl }
theorem lay8_271 : Go.Proofs.Lays.n271 Tryd.prog r8 := {
  mixed := by kernel_rfl
  f120 := Tryd.func83.trans (congrArg some (by kernel_rfl))
  f197 := Tryd.func72.trans (congrArg some (by kernel_rfl))
  f260 := Tryd.func88.trans (congrArg some (by kernel_rfl))
  f271 := Tryd.func67.trans (congrArg some (by kernel_rfl))
  t0 := by kernel_rfl
  a0 := fun w => by kernel_rfl
  z0 := fun w => by kernel_rfl
  v0 := fun w => by kernel_rfl
  t3 := by kernel_rfl
  a3 := fun w => by kernel_rfl
  z3 := fun w => by kernel_rfl
  v3 := fun w => by kernel_rfl
  t4 := by kernel_rfl
  a4 := fun w => by kernel_rfl
  z4 := fun w => by kernel_rfl
  v4 := fun w => by kernel_rfl
  t5 := by kernel_rfl
  a5 := fun w => by kernel_rfl
  z5 := fun w => by kernel_rfl
  v5 := fun w => by kernel_rfl
  t9 := by kernel_rfl
  a9 := fun w => by kernel_rfl
  z9 := fun w => by kernel_rfl
  v9 := fun w => by kernel_rfl
  t21 := by kernel_rfl
  a21 := fun w => by kernel_rfl
  z21 := fun w => by kernel_rfl
  v21 := fun w => by kernel_rfl
  t46 := by kernel_rfl
  a46 := fun w => by kernel_rfl
  z46 := fun w => by kernel_rfl
  v46 := fun w => by kernel_rfl
  t105 := by kernel_rfl
  a105 := fun w => by kernel_rfl
  z105 := fun w => by kernel_rfl
  v105 := fun w => by kernel_rfl
  t119 := by kernel_rfl
  a119 := fun w => by kernel_rfl
  z119 := fun w => by kernel_rfl
  t138 := by kernel_rfl
  a138 := fun w => by kernel_rfl
  z138 := fun w => by kernel_rfl
  v138 := fun w => by kernel_rfl
  t139 := by kernel_rfl
  a139 := fun w => by kernel_rfl
  z139 := fun w => by kernel_rfl
  v139 := fun w => by kernel_rfl
  g3 := by kernel_rfl
  g4 := by kernel_rfl }
theorem x8 : U8Extra Tryd.prog r8 := {
  n3 := by kernel_rfl
  n4 := by kernel_rfl
  y3 := by kernel_rfl
  y4 := by kernel_rfl
  c5 := by kernel_rfl
  c119 := by kernel_rfl
  c138 := by kernel_rfl }
/-- The decoders' two tables hold what their initialisers lay. -/
def Tabs (w : World) : Prop := Lib.Utf8Tabs 2 3 w
theorem tabs_of {w : World} {l : List (String × DataW Unit)} (h : laidMet Tryd.prog l w) (h1 : ("unicode/utf8.first", Lib.firstData) ∈ l) (h2 : ("unicode/utf8.acceptRanges", Lib.acceptData) ∈ l) : Tabs w :=
  utf8Tabs_of_reads lay8_260 x8 (Lib.laidMet.reads h h1) (Lib.laidMet.reads h h2)
theorem Tabs.below {w w' : World} (h : Tabs w) (hb : Below w.heap.size w w') : Tabs w' :=
  ⟨fun c hc => cell_later hb (h.1 c hc), fun i hi => ⟨cell_later hb (h.2 i hi).1, cell_later hb (h.2 i hi).2⟩⟩
theorem dCount (s : ByteArray) (w : World) (hs : s.size < 9223372036854775807) :
    Calls Tryd.prog 89 #[.string s] w fun e w' => e = .returned (.int .i64 (Lib.runeCount s)) ∧ Below w.heap.size w w' :=
  (Any.utf8_RuneCountInString lay8_195 s w hs).mono fun e w' ⟨he, pos, hw⟩ => ⟨he, hw ▸ (Below.refl _ w).alloc (Nat.le_refl _) _⟩
theorem dDec (s : ByteArray) (w : World) (hT : Tabs w) :
    Calls Tryd.prog 72 #[.string s] w fun e w' => e = .returned (.tuple #[.int .i32 (Lib.decodeGo s).1, .int .i64 (Lib.decodeGo s).2]) ∧ Below w.heap.size w w' := Any.utf8_DecodeRuneInString lay8_197 s w hT
theorem dLast (s : ByteArray) (w : World) (hs : s.size ≤ 9223372036854775807) (hT : Tabs w) :
    Calls Tryd.prog 67 #[.string s] w fun e w' => e = .returned (.tuple #[.int .i32 (Lib.decodeLastL s.data.toList).1, .int .i64 (Lib.decodeLastL s.data.toList).2]) ∧ Below w.heap.size w w' := Any.utf8_DecodeLastRuneInString lay8_271 s w hs hT
end Go.Proofs.YtblaldahhhokmaaDoor

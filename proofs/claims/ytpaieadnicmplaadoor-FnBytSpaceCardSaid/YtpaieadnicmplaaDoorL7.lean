/- The shelf's contract of unicode/utf8.DecodeRune, laid at this program by name (genlays7.py). -/
import Derived.Shelf.Spec.DecodeRune
import Derived.Lib.LaidU8
import Derived.PinnedBridge
import Derived.WalkSpells
import Derived.Test.YtpaieadnicmplaaDoorRows
import Derived.Test.YtpaieadnicmplaaDoorByt
set_option linter.unusedVariables false
namespace Go.Proofs.YtpaieadnicmplaaDoor
open Go.Shelf Go.RowKit Go.Lib
def r7 : Go.Shelf.Ren := ⟨fun | 32 => 37 | 49 => 51 | n => n, fun | 0 => 0 | 3 => 3 | 4 => 4 | 5 => 5 | 21 => 21 | 25 => 52 | 30 => 23 | 33 => 43 | 66 => 58 | 68 => 68 | 69 => 69 | n => n, fun | 2 => 2 | 3 => 3 | n => n⟩
theorem lay7_32 : Go.Proofs.Lays7.n32 Tryd.prog r7 := {
  mixed := by kernel_rfl
  f32 := Tryd.func37.trans (congrArg some (by kernel_rfl))
  f49 := Tryd.func51.trans (congrArg some (by kernel_rfl))
  t0 := by kernel_rfl
  a0 := fun w => by kernel_rfl
  z0 := fun w => by kernel_rfl
  v0 := fun w => by kernel_rfl
  i0 := by kernel_rfl
  t3 := by kernel_rfl
  a3 := fun w => by kernel_rfl
  z3 := fun w => by kernel_rfl
  v3 := fun w => by kernel_rfl
  i3 := by kernel_rfl
  t4 := by kernel_rfl
  a4 := fun w => by kernel_rfl
  z4 := fun w => by kernel_rfl
  v4 := fun w => by kernel_rfl
  i4 := by kernel_rfl
  t5 := by kernel_rfl
  a5 := fun w => by kernel_rfl
  z5 := fun w => by kernel_rfl
  v5 := fun w => by kernel_rfl
  i5 := by kernel_rfl
  t21 := by kernel_rfl
  a21 := fun w => by kernel_rfl
  z21 := fun w => by kernel_rfl
  v21 := fun w => by kernel_rfl
  i21 := by kernel_rfl
  t25 := by kernel_rfl
  a25 := fun w => by kernel_rfl
  z25 := fun w => by kernel_rfl
  v25 := fun w => by kernel_rfl
  i25 := by kernel_rfl
  t30 := by kernel_rfl
  a30 := fun w => by kernel_rfl
  z30 := fun w => by kernel_rfl
  v30 := fun w => by kernel_rfl
  i30 := by kernel_rfl
  t33 := by kernel_rfl
  a33 := fun w => by kernel_rfl
  z33 := fun w => by kernel_rfl
  v33 := fun w => by kernel_rfl
  i33 := by kernel_rfl
  t66 := by kernel_rfl
  a66 := fun w => by kernel_rfl
  z66 := fun w => by kernel_rfl
  t68 := by kernel_rfl
  a68 := fun w => by kernel_rfl
  z68 := fun w => by kernel_rfl
  v68 := fun w => by kernel_rfl
  i68 := by kernel_rfl
  t69 := by kernel_rfl
  a69 := fun w => by kernel_rfl
  z69 := fun w => by kernel_rfl
  v69 := fun w => by kernel_rfl
  i69 := by kernel_rfl
  g2 := by kernel_rfl
  g3 := by kernel_rfl }
/-- The decoders' two tables hold what their initialisers lay. -/
def Tabs (w : World) : Prop := Lib.Utf8Tabs 2 3 w
theorem Tabs.below {w w' : World} (h : Tabs w) (hb : Below w.heap.size w w') : Tabs w' :=
  ⟨fun c hc => cell_later hb (h.1 c hc), fun i hi => ⟨cell_later hb (h.2 i hi).1, cell_later hb (h.2 i hi).2⟩⟩
theorem tabs_of {w : World} {l : List (String × DataW Unit)} (h : laidMet Tryd.prog l w) (h1 : ("unicode/utf8.first", Lib.firstData) ∈ l) (h2 : ("unicode/utf8.acceptRanges", Lib.acceptData) ∈ l) : Tabs w := by
  refine ⟨fun c hc => ?_, fun i hi => ?_⟩
  · obtain ⟨g, t, cs, fuel, p, hg, hty, hvar, hd⟩ := Lib.laidMet.reads h h1
    obtain rfl : 2 = g := Option.some.inj ((show Tryd.prog.globalNamed "unicode/utf8.first" = some 2 by kernel_rfl).symm.trans hg)
    obtain rfl : 58 = t := Option.some.inj ((show (Tryd.prog.globals[2]?).map (·.type) = some 58 by kernel_rfl).symm.trans hty)
    have hcs := Lib.cells_of_tab Tryd.underlying58 Tryd.underlying5 (by kernel_rfl) (by kernel_rfl) hd
    rw [World.var?_cell hg hvar c, ← Array.getElem?_toList, hcs]
    simp [Lib.firstTab, hc]
  · obtain ⟨g, t, cs, fuel, p, hg, hty, hvar, hd⟩ := Lib.laidMet.reads h h2
    obtain rfl : 3 = g := Option.some.inj ((show Tryd.prog.globalNamed "unicode/utf8.acceptRanges" = some 3 by kernel_rfl).symm.trans hg)
    obtain rfl : 69 = t := Option.some.inj ((show (Tryd.prog.globals[3]?).map (·.type) = some 69 by kernel_rfl).symm.trans hty)
    have c5 : Tryd.prog.cellsOf 5 = 1 := by kernel_rfl
    have c138 : Tryd.prog.cellsOf 68 = 2 := by kernel_rfl
    obtain ⟨fuel', d, q, hdi, he⟩ := Lib.array_elem Tryd.underlying69 hd i hi
    simp only [List.getElem?_map, List.getElem?_range hi, Option.map_some, Option.some.injEq] at hdi
    subst hdi
    rw [c138] at he
    have hcs := Lib.ints_of_struct lay7_32.t68 (fun j f hj => by
      match j, hj with
      | 0, hj => simp at hj; subst hj; exact ⟨Tryd.underlying5, rfl, c5⟩
      | 1, hj => simp at hj; subst hj; exact ⟨Tryd.underlying5, rfl, c5⟩
      | j + 2, hj => simp at hj) (by rw [show r7.t 68 = 68 from rfl, c138]; rfl) he
    have e0 := congrArg (·[0]?) hcs
    have e1 := congrArg (·[1]?) hcs
    simp only [List.getElem?_take, List.getElem?_drop] at e0 e1
    constructor
    · rw [World.var?_cell hg hvar (2 * i), ← Array.getElem?_toList]
      simpa [Nat.mul_comm] using e0
    · rw [World.var?_cell hg hvar (2 * i + 1), ← Array.getElem?_toList]
      simpa [Nat.mul_comm] using e1
theorem dDecB (s : ByteArray) (b o c : Nat) (w : World) (hT : Tabs w) (hB : Lib.Bytes w b o s) :
    Calls Tryd.prog 37 #[.slice (some ⟨b, o, none⟩) s.size c] w fun e w' => e = .returned (.tuple #[.int .i32 (Lib.decodeGo s).1, .int .i64 (Lib.decodeGo s).2]) ∧ Below w.heap.size w w' :=
  Any7.utf8_DecodeRune lay7_32 s b o c w hT (fun j hj => by rw [hB j hj]; rw [show s.get! j = s[j] from getElem!_pos s.data j hj])
end Go.Proofs.YtpaieadnicmplaaDoor

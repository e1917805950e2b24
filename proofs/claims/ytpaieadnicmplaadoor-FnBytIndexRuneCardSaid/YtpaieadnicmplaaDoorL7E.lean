/- The shelf's contract of unicode/utf8.EncodeRune, laid at this program by name (genlays7e.py). -/
import Derived.Shelf.Spec.EncodeRune
import Derived.Stop.FmtQuoteTie
import Derived.Laws.IdiomCopy
import Derived.Lib.LazyBuf
import Derived.Test.YtpaieadnicmplaaDoorL7
set_option linter.unusedVariables false
namespace Go.Proofs.YtpaieadnicmplaaDoor
open Go.Shelf Go.RowKit Go.Lib
def r7e : Go.Shelf.Ren := ⟨fun | 30 => 39 | 47 => 52 | n => n, fun | 0 => 0 | 3 => 3 | 4 => 4 | 5 => 5 | 21 => 21 | 25 => 52 | 27 => 60 | 30 => 23 | n => n, fun n => n⟩
theorem lay7e_30 : Go.Proofs.Lays7.n30 Tryd.prog r7e := {
  mixed := by kernel_rfl
  f30 := Tryd.func39.trans (congrArg some (by kernel_rfl))
  f47 := Tryd.func52.trans (congrArg some (by kernel_rfl))
  t0 := by kernel_rfl
  a0 := fun w => by kernel_rfl
  z0 := fun w => by kernel_rfl
  v0 := fun w => by kernel_rfl
  i0 := by kernel_rfl
  t3 := by kernel_rfl
  a3 := fun w => by kernel_rfl
  z3 := fun w => by kernel_rfl
  v3 := fun w => by kernel_rfl
  i3 := by kernel_rfl
  t4 := by kernel_rfl
  a4 := fun w => by kernel_rfl
  z4 := fun w => by kernel_rfl
  v4 := fun w => by kernel_rfl
  i4 := by kernel_rfl
  t5 := by kernel_rfl
  a5 := fun w => by kernel_rfl
  z5 := fun w => by kernel_rfl
  v5 := fun w => by kernel_rfl
  i5 := by kernel_rfl
  t21 := by kernel_rfl
  a21 := fun w => by kernel_rfl
  z21 := fun w => by kernel_rfl
  v21 := fun w => by kernel_rfl
  i21 := by kernel_rfl
  t25 := by kernel_rfl
  a25 := fun w => by kernel_rfl
  z25 := fun w => by kernel_rfl
  v25 := fun w => by kernel_rfl
  i25 := by kernel_rfl
  t27 := by kernel_rfl
  a27 := fun w => by kernel_rfl
  z27 := fun w => by kernel_rfl
  v27 := fun w => by kernel_rfl
  i27 := by kernel_rfl
  t30 := by kernel_rfl
  a30 := fun w => by kernel_rfl
  z30 := fun w => by kernel_rfl
  v30 := fun w => by kernel_rfl
  i30 := by kernel_rfl }
theorem runeCells_map (r : Nat) : Lib.runeCells (r : Int) = (Utf8.encode (r : Int)).data.toList.map fun x => Value.int .u8 (x.toNat : Int) := by
  unfold Lib.runeCells
  rw [← Go.Extern.FmtText.encode_eq, Go.Extern.FmtText.nums, List.map_map]
  rfl
theorem runeCells_at (r : Nat) (t : ByteArray) (ht : Utf8.encode (r : Int) = t) (j : Nat) (hj : j < t.size) : (Lib.runeCells (r : Int))[j]? = some (.int .u8 (t[j]'hj).toNat) := by
  rw [runeCells_map, ht, List.getElem?_map, byte_at _ j hj]
  rfl
theorem runeCells_len (r : Nat) : (Lib.runeCells (r : Int)).length = (Utf8.encode (r : Int)).size := by
  rw [runeCells_map, List.length_map, ← Lib.size_eq]
/-- What EncodeRune leaves in a block of four bytes that is new. -/
theorem encB (r : Nat) (hhi : r ≤ 1114111) (B : Nat) (w0 w : World) (hb : Below B w0 w) (hc : ∀ j, j < 4 → (w.cell? ⟨B, j, none⟩).isSome = true) (hf : ∀ j, j < 4 → w.frozen? ⟨B, j, none⟩ = false) :
    Calls Tryd.prog 39 #[.slice (some ⟨B, 0, none⟩) 4 4, .int .i32 (r : Int)] w fun e w' => e = .returned (.int .i64 (Utf8.encode (r : Int)).size) ∧ Lib.Bytes w' B 0 (Utf8.encode (r : Int)) ∧ Below B w0 w' := by
  have hl := (Lib.runeCells_le (r : Int)).2
  refine (Any7.utf8_EncodeRune lay7e_30 B 0 4 4 (r : Int) (by omega) (by omega) w hl (fun j hj => by rw [Nat.zero_add]; exact hc j (by omega)) (fun j hj => by rw [Nat.zero_add]; exact hf j (by omega))).mono ?_
  rintro e w' ⟨rfl, rfl⟩
  refine ⟨by rw [runeCells_len], fun j hj => ?_, Go.below_setCells (Nat.le_refl _) _ _ _ hb⟩
  have hj' : j < (Lib.runeCells (r : Int)).length := by rw [runeCells_len]; exact hj
  rw [World.cell?_setCells_in B _ 0 w (fun k hk => by rw [Nat.zero_add]; exact hc k (by omega)) j hj']
  have := runeCells_at r _ rfl j hj
  rw [List.getElem?_eq_getElem hj'] at this
  exact this
end Go.Proofs.YtpaieadnicmplaaDoor

/- Plain: the pieces of a text. -/
import Derived.Test.YtpaieadnicmplaaDoorStrs
import Derived.Lib.Split
import Derived.Lib.IndexMore
import Derived.Laws.Strings3
set_option linter.unusedVariables false
namespace Go.Proofs.YtpaieadnicmplaaDoor
open Go.RowKit Go.Lib

theorem cellsOf_at {xs : List ByteArray} {N j : Nat} {u : ByteArray} (h : xs[j]? = some u) : (cellsOf xs N)[j]? = some (.string u) := by
  have hj := (List.getElem?_eq_some_iff.1 h).1
  unfold cellsOf
  rw [List.getElem?_toArray, List.getElem?_append_left (by simpa using hj), List.getElem?_map, h]
  rfl

/-- What genSplit hands back stands there. -/
theorem split_at (xs : List ByteArray) (N : Nat) (w : World) (hN : xs.length ≤ N) : StrsAt (w.alloc (.cells (cellsOf xs N) 9)) (.slice (some ⟨w.heap.size, 0, none⟩) xs.length N) xs :=
  ⟨_, N, rfl, hN, fun _ => ⟨w.heap.size, 0, rfl, by simp, fun j u hu => by
    rw [Nat.zero_add, World.cell?_alloc_at _ _ _ _ rfl]
    exact cellsOf_at hu⟩⟩

/-- How many pieces at most. -/
def pN (s sep : ByteArray) (n : Int) : Nat := (min (if n < 0 then (countB s sep : Int) + 1 else n) ((s.size : Int) + 1)).toNat
theorem pN_eq (s sep : ByteArray) (n : Int) (hn : n ≠ 0) : (pN s sep n : Int) = min (if n < 0 then (countB s sep : Int) + 1 else n) ((s.size : Int) + 1) := by
  unfold pN
  have : 0 ≤ min (if n < 0 then (countB s sep : Int) + 1 else n) ((s.size : Int) + 1) := by
    refine Int.le_min.2 ⟨?_, by omega⟩
    split <;> omega
  omega
theorem pN_pos (s sep : ByteArray) (n : Int) (hn : n ≠ 0) : 1 ≤ pN s sep n := by
  have h := pN_eq s sep n hn
  have : 1 ≤ min (if n < 0 then (countB s sep : Int) + 1 else n) ((s.size : Int) + 1) := by
    refine Int.le_min.2 ⟨?_, by omega⟩
    split <;> omega
  omega
theorem pN_le (s sep : ByteArray) (n : Int) (hn : n ≠ 0) : pN s sep n ≤ s.size + 1 := by
  have h := pN_eq s sep n hn
  have : min (if n < 0 then (countB s sep : Int) + 1 else n) ((s.size : Int) + 1) ≤ (s.size : Int) + 1 := Int.min_le_right _ _
  omega
/-- The pieces. -/
def pcs (s sep : ByteArray) (sv : Nat) (n : Int) : List ByteArray := splitB sep sv (pN s sep n - 1) s
theorem pcs_len (s sep : ByteArray) (sv : Nat) (n : Int) (hn : n ≠ 0) : (pcs s sep sv n).length ≤ pN s sep n := by
  have := splitB_length_le sep sv (pN s sep n - 1) s
  have := pN_pos s sep n hn
  unfold pcs
  omega

theorem pcs_small (s sep : ByteArray) (sv : Nat) (n : Int) (hn : n ≠ 0) (hs : s.size < 2147483648) : (pcs s sep sv n).length < 4294967281 := by
  have := pcs_len s sep sv n hn
  have := pN_le s sep n hn
  omega

end Go.Proofs.YtpaieadnicmplaaDoor

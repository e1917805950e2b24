/- Plain: the code points of a text as pieces. -/
import Derived.Test.YtpaieadnicmplaaDoorPcs2
import Derived.Lib.DecodeN
import Derived.Lib.RuneCount
import Derived.Shelf.Unicode.DecodeSlow
import Derived.Shelf.Unicode.DecodeLast
import Derived.Laws.Rows
set_option linter.unusedVariables false
namespace Go.Proofs.YtpaieadnicmplaaDoor
open Go.RowKit Go.Lib

theorem count_starts (s : ByteArray) : ∀ f a, s.size - a ≤ f → runeCountFrom s f a = (starts s a).length
  | 0, a, h => by rw [starts_end s a (by omega)]; rfl
  | f + 1, a, h => by
    unfold runeCountFrom
    by_cases ha : a < s.size
    · have hw := decode_width_pos s a ha
      rw [if_pos ha, starts_cons s a ha, List.length_cons, count_starts s f _ (by omega)]; omega
    · rw [if_neg ha, starts_end s a (by omega)]; rfl
theorem runeCount_starts (s : ByteArray) : runeCount s = (starts s 0).length := count_starts s s.size 0 (by omega)

theorem decode_suffix (s : ByteArray) (a : Nat) (h : a < s.size) : decodeGo (s.extract a s.size) = Utf8.decode s a := by
  have hz : (s.extract a s.size).size = s.size - a := by rw [ByteArray.size_extract]; omega
  have hg : ∀ j, (s.extract a s.size).get! j = s.get! (a + j) := fun j => by
    rw [← getD_get!, ← getD_get!, x_list]
    simp [List.getD, List.getElem?_drop]
  unfold decodeGo
  rw [if_neg (by omega), decode_at, decode_at, hz, hg, hg, hg, hg]
  rfl

/-- The pieces, N of them. -/
def expl (s : ByteArray) (N : Nat) : List ByteArray := if N = 0 then [] else piecesOf s 0 0 0 (brkE s (N - 1))
/-- How many. -/
def eN (s : ByteArray) (n : Int) : Nat := if n < 0 ∨ ((starts s 0).length : Int) < n then (starts s 0).length else n.toNat
theorem eN_le (s : ByteArray) (n : Int) : eN s n ≤ (starts s 0).length := by
  unfold eN; split <;> omega
theorem expl_len (s : ByteArray) (N : Nat) (h : N ≤ (starts s 0).length) : (expl s N).length = N := by
  unfold expl
  split
  · next h0 => rw [h0]; rfl
  · rw [piecesOf_len]; unfold brkE; rw [List.length_take, List.length_drop]; omega

theorem heap_alloc_last' (w : World) (o : Obj) : (w.alloc o).heap[w.heap.size]? = some o := by
  show (w.heap.push o)[w.heap.size]? = some o
  simp
theorem row_at (xs : List ByteArray) (N B : Nat) (w : World) (hh : w.heap[B]? = some (.cells (cellsOf xs N) 9 (0, 0))) (hN : xs.length = N) : StrsAt w (.slice (some ⟨B, 0, none⟩) N N) xs := by
  subst hN
  exact ⟨_, _, rfl, Nat.le_refl _, fun _ => ⟨B, 0, rfl, (Array.getElem?_eq_some_iff.1 hh).1, fun j u hu => by rw [Nat.zero_add, cell_of_row w B j _ _ _ hh]; exact cellsOf_at hu⟩⟩

end Go.Proofs.YtpaieadnicmplaaDoor

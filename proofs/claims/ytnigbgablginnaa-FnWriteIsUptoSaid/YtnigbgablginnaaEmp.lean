/- Empty texts, and texts that are not. -/
import Derived.Test.YtnigbgablginnaaBas
set_option linter.unusedVariables false
namespace Go.Proofs.Ytnigbgablginnaa
open Go.RowKit Go.Lib
theorem neB {c : ByteArray} (h : 1 ≤ c.size) : c.toList.isEmpty = false := by
  rw [Go.ByteArray.toList_eq]
  cases hc : c.data.toList with
  | nil => have := Lib.size_eq c; rw [hc, List.length_nil] at this; omega
  | cons _ _ => rfl
theorem neB2 {c : ByteArray} (h : 1 ≤ c.size) : ¬ c = ByteArray.empty := fun e => by rw [e] at h; exact absurd h (by decide)
theorem emptyB (c : ByteArray) (h : c.size = 0) : c = ByteArray.empty := by
  apply ByteArray.ext; apply Array.toList_inj.1; apply List.length_eq_zero_iff.1
  rw [Array.length_toList]; exact h
theorem ba_eq {a b : ByteArray} (h : a.data.toList = b.data.toList) : a = b := ByteArray.ext (Array.toList_inj.1 h)
end Go.Proofs.Ytnigbgablginnaa

/- Heads and tails, plain. -/
import Derived.Test.YtiggomaoijamhaaBas
namespace Go.Proofs.Ytiggomaoijamhaa
open Go.RowKit Go.Lib

def headB (s sep : ByteArray) : Bool := atB s sep 0
def tailB (s sep : ByteArray) : Bool := atB s sep ((s.size : Int) - sep.size)
theorem headB_in (s sep : ByteArray) (h : sep.size ≤ s.size) : headB s sep = ((s.extract 0 sep.size).toList == sep.toList) := by
  have := atB_in s sep 0 (by omega)
  rw [Nat.zero_add] at this; exact this
theorem headB_long (s sep : ByteArray) (h : s.size < sep.size) : headB s sep = false := atB_long s sep 0 (by omega)
theorem tailB_in (s sep : ByteArray) (h : sep.size ≤ s.size) : tailB s sep = ((s.extract (s.size - sep.size) s.size).toList == sep.toList) := by
  have := atB_in s sep (s.size - sep.size) (by omega)
  rw [show s.size - sep.size + sep.size = s.size by omega] at this
  rw [← this]; unfold tailB; congr 1; omega
theorem tailB_long (s sep : ByteArray) (h : s.size < sep.size) : tailB s sep = false := atB_neg s sep _ (by omega)
theorem headB_le {s sep : ByteArray} (h : headB s sep = true) : sep.size ≤ s.size := by
  rcases Nat.lt_or_ge s.size sep.size with h' | h'
  · rw [headB_long s sep h'] at h; cases h
  · exact h'
theorem tailB_le {s sep : ByteArray} (h : tailB s sep = true) : sep.size ≤ s.size := by
  rcases Nat.lt_or_ge s.size sep.size with h' | h'
  · rw [tailB_long s sep h'] at h; cases h
  · exact h'
end Go.Proofs.Ytiggomaoijamhaa

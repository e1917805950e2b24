/- Plain: the pieces one by one, as the iterator of SplitSeq yields them. -/
import Derived.Test.YtblaldahhhokmaaDoorSplA
set_option linter.unusedVariables false
namespace Go.Proofs.YtblaldahhhokmaaDoor
open Go.RowKit Go.Lib

/-- What is left to be yielded of x. -/
def seqS (sep : ByteArray) (sv : Nat) (x : ByteArray) : List ByteArray := splitB sep sv (countB x sep) x
theorem seqS_miss (sep : ByteArray) (sv : Nat) (x : ByteArray) (h : indexB x sep = -1) : seqS sep sv x = [x] := by
  unfold seqS
  exact splitB_miss sep sv _ x h
theorem seqS_hit (sep : ByteArray) (sv : Nat) (x : ByteArray) (i : Nat) (h1 : 1 ≤ sep.size) (h : indexB x sep = i) : seqS sep sv x = x.extract 0 (i + sv) :: seqS sep sv (x.extract (i + sep.size) x.size) := by
  unfold seqS
  rw [countB_hit x sep i h1 h, Nat.add_comm 1, splitB_hit sep sv _ x i h]
theorem seqS_all (s sep : ByteArray) (sv : Nat) (h1 : 1 ≤ sep.size) : seqS sep sv s = allP s sep sv (-1) := by
  unfold allP
  rw [if_neg (by omega)]
  unfold pcs seqS
  have hc := count_size sep h1 s.size s (Nat.le_refl _)
  have hN := pN_eq s sep (-1) (by decide)
  rw [if_pos (by decide), Int.min_eq_left (by omega)] at hN
  rw [show pN s sep (-1) - 1 = countB s sep by omega]

/-- The same at the empty separator, from the place a on. -/
def seqE (s : ByteArray) (a : Nat) : List ByteArray := if a < s.size then piecesOf s 0 0 a ((starts s a).drop 1) else []
theorem seqE_end (s : ByteArray) (a : Nat) (h : s.size ≤ a) : seqE s a = [] := by
  unfold seqE
  rw [if_neg (by omega)]
theorem seqE_step (s : ByteArray) (a : Nat) (h : a < s.size) : seqE s a = s.extract a (a + (Utf8.decode s a).2) :: seqE s (a + (Utf8.decode s a).2) := by
  have he := decode_end s a h
  conv => lhs; unfold seqE
  rw [if_pos h, starts_cons s a h, List.drop_succ_cons, List.drop_zero]
  by_cases hb : a + (Utf8.decode s a).2 < s.size
  · rw [starts_cons s _ hb]
    unfold seqE
    rw [if_pos hb, starts_cons s _ hb, List.drop_succ_cons, List.drop_zero]
    rfl
  · rw [starts_end s _ (by omega), seqE_end s _ (by omega), show a + (Utf8.decode s a).2 = s.size by omega]
    rfl
theorem seqE_all (s sep : ByteArray) (sv : Nat) (h0 : sep.size = 0) : seqE s 0 = allP s sep sv (-1) := by
  unfold allP
  rw [if_pos h0]
  have hN : eN s (-1) = (starts s 0).length := by rw [eN, if_pos (Or.inl (by decide))]
  rw [hN]
  unfold expl seqE
  by_cases hs : 0 < s.size
  · have hl1 : 1 ≤ (starts s 0).length := by rw [starts_cons s 0 hs]; simp
    rw [if_pos hs, if_neg (by omega), brkE_whole s _ (by omega)]
  · rw [if_neg hs, starts_end s 0 (by omega)]
    rfl
/-- What is left at a state of the iterator; b: whether the separator is empty. -/
theorem seq_len (s sep : ByteArray) (sv : Nat) (hs : s.size < 2147483648) : (allP s sep sv (-1)).length < 4294967281 := allP_small s sep sv (-1) (by decide) hs
end Go.Proofs.YtblaldahhhokmaaDoor

/- Plain laws: pieces, joined again. -/
import Derived.Test.YtblaldahhhokmaaDoorSplA
import Derived.Lib.Join
set_option linter.unusedVariables false
namespace Go.Proofs.YtblaldahhhokmaaDoor
open Go.Lib

theorem join_two (x y : List UInt8) (r : List (List UInt8)) (sep : List UInt8) : join (x :: y :: r) sep = x ++ sep ++ join (y :: r) sep := by
  rw [join_cons, join_cons]
  simp [joinTail, List.append_assoc]

theorem piecesOf_ne (s : ByteArray) (sl kl : Nat) (B : List Nat) (a : Nat) : ∃ y r, piecesOf s sl kl a B = y :: r := by
  cases B with
  | nil => exact ⟨_, _, rfl⟩
  | cons i r => exact ⟨_, _, rfl⟩

theorem part_list (s : ByteArray) (a b : Nat) : (s.extract a b).data.toList = (s.data.toList.drop a).take (b - a) := extract_data s a b

/-- Between the pieces what parted them. -/
theorem pieces_join (s : ByteArray) (sepL : List UInt8) (sl : Nat) (hsl : sl = sepL.length) : ∀ (B : List Nat) (a : Nat), okB s sl a B → (∀ i ∈ B, (s.data.toList.drop i).take sl = sepL) → join ((piecesOf s sl 0 a B).map (·.data.toList)) sepL = s.data.toList.drop a
  | [], a, h, _ => by
    show join [(s.extract a s.size).data.toList] sepL = _
    rw [join_one, x_list]
  | i :: r, a, h, hat => by
    obtain ⟨h1, h2, h3⟩ := h
    have ih := pieces_join s sepL sl hsl r (i + sl) h3 (fun j hj => hat j (by simp [hj]))
    obtain ⟨y, q, hy⟩ := piecesOf_ne s sl 0 r (i + sl)
    show join ((s.extract a (i + 0)).data.toList :: (piecesOf s sl 0 (i + sl) r).map (·.data.toList)) sepL = _
    rw [hy] at ih ⊢
    rw [List.map_cons] at ih ⊢
    rw [join_two, ih, part_list, Nat.add_zero]
    have hd := hat i (by simp)
    have e : s.data.toList.drop i = sepL ++ s.data.toList.drop (i + sl) := by
      conv => lhs; rw [← List.take_append_drop sl (s.data.toList.drop i), hd, List.drop_drop]
    rw [List.append_assoc, ← e]
    conv => rhs; rw [← List.take_append_drop (i - a) (s.data.toList.drop a), List.drop_drop, show a + (i - a) = i by omega]

/-- Pieces with what parted them behind. -/
theorem pieces_after (s : ByteArray) (sl : Nat) : ∀ (B : List Nat) (a : Nat), okB s sl a B → join ((piecesOf s sl sl a B).map (·.data.toList)) [] = s.data.toList.drop a
  | [], a, h => by
    show join [(s.extract a s.size).data.toList] [] = _
    rw [join_one, x_list]
  | i :: r, a, h => by
    obtain ⟨h1, h2, h3⟩ := h
    have ih := pieces_after s sl r (i + sl) h3
    obtain ⟨y, q, hy⟩ := piecesOf_ne s sl sl r (i + sl)
    show join ((s.extract a (i + sl)).data.toList :: (piecesOf s sl sl (i + sl) r).map (·.data.toList)) [] = _
    rw [hy] at ih ⊢
    rw [List.map_cons] at ih ⊢
    rw [join_two, ih, part_list, List.append_nil]
    conv => rhs; rw [← List.take_append_drop (i + sl - a) (s.data.toList.drop a), List.drop_drop, show a + (i + sl - a) = i + sl by omega]
end Go.Proofs.YtblaldahhhokmaaDoor

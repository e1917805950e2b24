/- Plain: a text in which another one is exchanged, by the places where it is parted. -/
import Derived.Test.YtblaldahhhokmaaDoorStrJ
import Derived.Lib.ReplaceLaws
set_option linter.unusedVariables false
namespace Go.Proofs.YtblaldahhhokmaaDoor
open Go.RowKit Go.Lib

/-- The pieces with another text between them. -/
def replAt (s : ByteArray) (nw : List UInt8) (sl : Nat) : Nat → List Nat → List UInt8
  | a, [] => s.data.toList.drop a
  | a, i :: r => (s.data.toList.drop a).take (i - a) ++ nw ++ replAt s nw sl (i + sl) r
theorem replAt_join (s : ByteArray) (nw : List UInt8) (sl : Nat) : ∀ (l : List Nat) (a : Nat), replAt s nw sl a l = join ((piecesOf s sl 0 a l).map (·.data.toList)) nw
  | [], a => by
    show _ = join [(s.extract a s.size).data.toList] nw
    rw [join_one, x_list]; rfl
  | i :: r, a => by
    have ih := replAt_join s nw sl r (i + sl)
    obtain ⟨y, q, hy⟩ := piecesOf_ne s sl 0 r (i + sl)
    show _ = join ((s.extract a (i + 0)).data.toList :: (piecesOf s sl 0 (i + sl) r).map (·.data.toList)) nw
    rw [hy] at ih ⊢
    rw [List.map_cons] at ih ⊢
    rw [join_two, ← ih, Nat.add_zero, extract_data]
    rfl

/-- What Replace makes is the pieces joined. -/
theorem replaceK_split (old : ByteArray) (nw : List UInt8) : ∀ (k : Nat) (x : ByteArray), replaceK old.data.toList nw k x.data.toList = join ((splitB old 0 k x).map (·.data.toList)) nw
  | 0, x => by
    show x.data.toList = join [x.data.toList] nw
    rw [join_one]
  | k + 1, x => by
    rcases indexB_cases x old with h | ⟨i, h, hr⟩
    · rw [splitB_miss old 0 _ x h]
      have h' : index x.data.toList old.data.toList = -1 := h
      show _ = join [x.data.toList] nw
      rw [join_one, replaceK, h', if_pos (by decide)]
    · rw [splitB_hit old 0 k x i h, replaceK_hit _ _ k _ i h]
      have ih := replaceK_split old nw k (x.extract (i + old.size) x.size)
      rw [x_list] at ih
      rw [show i + old.data.toList.length = i + old.size by rw [size_eq], ih]
      have hne : splitB old 0 k (x.extract (i + old.size) x.size) ≠ [] := by
        cases k with
        | zero => simp [splitB]
        | succ k =>
          rcases indexB_cases (x.extract (i + old.size) x.size) old with h2 | ⟨j, h2, _⟩
          · rw [splitB_miss old 0 _ _ h2]; simp
          · rw [splitB_hit old 0 k _ j h2]; simp
      obtain ⟨y, q, hy⟩ : ∃ y q, splitB old 0 k (x.extract (i + old.size) x.size) = y :: q := by
        cases hc : splitB old 0 k (x.extract (i + old.size) x.size) with
        | nil => exact absurd hc hne
        | cons y q => exact ⟨y, q, rfl⟩
      rw [hy, List.map_cons, List.map_cons, List.map_cons, join_two, extract_data]
      simp

/-- All of them. -/
theorem replaceAll_pieces (s old new : ByteArray) (h1 : 1 ≤ old.size) : replaceAll s.data.toList old.data.toList new.data.toList = join ((allP s old 0 (-1)).map (·.data.toList)) new.data.toList := by
  have hP : allP s old 0 (-1) = splitB old 0 (countB s old) s := by
    unfold allP
    rw [if_neg (by omega)]
    unfold pcs
    have hc := count_size old h1 s.size s (Nat.le_refl _)
    have hN := pN_eq s old (-1) (by decide)
    rw [if_pos (by decide), Int.min_eq_left (by omega)] at hN
    rw [show pN s old (-1) - 1 = countB s old by omega]
  unfold replaceAll replace
  by_cases he : old.data.toList = new.data.toList
  · rw [if_pos (by rw [he]; simp), ← he, all_join]
  · rw [if_neg (by simpa using he), hP, ← replaceK_split]
    unfold replaceNum
    rw [if_pos (Or.inl (by decide))]

theorem replaceAll_at (s old new : ByteArray) (h1 : 1 ≤ old.size) : replaceAll s.data.toList old.data.toList new.data.toList = replAt s new.data.toList old.size 0 (brk s old 0 (s.size + 1)) := by
  rw [replaceAll_pieces s old new h1, replAt_join]
  unfold allP
  rw [if_neg (by omega), pcs_pieces s old 0 (-1) (s.size + 1) h1 (Nat.zero_le _) (by decide) (fun _ => by omega) (fun h => by omega)]

/-! ### the empty old text -/
/-- What comes from the place a on, the new text having been laid there. -/
def emR (s : ByteArray) (nw : List UInt8) (a : Nat) : List UInt8 := if a < s.size then replAt s nw 0 a ((starts s a).drop 1 ++ [s.size]) else []
theorem emR_end (s : ByteArray) (nw : List UInt8) (a : Nat) (h : s.size ≤ a) : emR s nw a = [] := by
  unfold emR; rw [if_neg (by omega)]
theorem emR_step (s : ByteArray) (nw : List UInt8) (a : Nat) (h : a < s.size) : emR s nw a = (s.data.toList.drop a).take (Utf8.decode s a).2 ++ nw ++ emR s nw (a + (Utf8.decode s a).2) := by
  have he := decode_end s a h
  conv => lhs; unfold emR
  rw [if_pos h, starts_cons s a h, List.drop_succ_cons, List.drop_zero]
  by_cases hb : a + (Utf8.decode s a).2 < s.size
  · rw [starts_cons s _ hb, List.cons_append, replAt, show a + (Utf8.decode s a).2 - a = (Utf8.decode s a).2 by omega]
    unfold emR
    rw [if_pos hb, starts_cons s _ hb, List.drop_succ_cons, List.drop_zero]
    rfl
  · rw [starts_end s _ (by omega), emR_end s nw _ (by omega), List.nil_append, replAt, replAt, show s.size - a = (Utf8.decode s a).2 by omega, Nat.add_zero]
    rw [show s.data.toList.drop s.size = [] from List.drop_eq_nil_of_le (by simp)]
theorem emR_all (s : ByteArray) (nw : List UInt8) : nw ++ emR s nw 0 = replAt s nw 0 0 (starts s 0 ++ [s.size]) := by
  unfold emR
  by_cases hs : 0 < s.size
  · rw [if_pos hs, starts_cons s 0 hs, List.drop_succ_cons, List.drop_zero, List.cons_append, replAt]
    simp
  · rw [if_neg hs, starts_end s 0 (by omega), List.nil_append, replAt, replAt, show s.size = 0 by omega]
    have : s.data.toList = [] := List.eq_nil_of_length_eq_zero (by rw [← size_eq]; omega)
    simp [this]
theorem replAt_len (s : ByteArray) (nw : List UInt8) (sl : Nat) : ∀ (l : List Nat) (a : Nat), (replAt s nw sl a l).length ≤ (l.length + 1) * s.size + l.length * nw.length
  | [], a => by simp [replAt]
  | i :: r, a => by
    have := replAt_len s nw sl r (i + sl)
    simp only [replAt, List.length_append, List.length_take, List.length_drop, List.length_cons, Array.length_toList, ByteArray.size_data] at *
    rw [Nat.add_mul, Nat.one_mul, Nat.add_mul, Nat.one_mul] 
    have h2 : min (i - a) (s.size - a) ≤ s.size := by omega
    rw [Nat.add_mul, Nat.one_mul] at this ⊢
    omega
theorem emR_len (s : ByteArray) (nw : List UInt8) : ∀ n a, s.size - a ≤ n → (emR s nw a).length = (s.size - a) + (starts s a).length * nw.length
  | n, a, hn => by
    by_cases ha : a < s.size
    · have hw := decode_width_pos s a ha
      have he := decode_end s a ha
      match n, hn with
      | 0, hn => omega
      | n + 1, hn =>
        have ih := emR_len s nw n (a + (Utf8.decode s a).2) (by omega)
        rw [emR_step s nw a ha, starts_cons s a ha, List.length_append, List.length_append, ih, List.length_take, List.length_drop, List.length_cons, Nat.add_mul, Nat.one_mul]
        simp
        omega
    · rw [emR_end s nw a (by omega), starts_end s a (by omega)]
      simp; omega
end Go.Proofs.YtblaldahhhokmaaDoor

/- Plain laws: where a text is parted, and its pieces. -/
import Derived.Test.YtpaieadnicmplaaDoorSplP
import Derived.Lib.IndexMore
set_option linter.unusedVariables false
namespace Go.Proofs.YtpaieadnicmplaaDoor
open Go.Lib

/-- The places from i on at which s is parted by sep, at most m. -/
def brk (s sep : ByteArray) (i m : Nat) : List Nat :=
  if h : i + sep.size ≤ s.size ∧ 0 < m then (if atB s sep i = true then i :: brk s sep (i + max 1 sep.size) (m - 1) else brk s sep (i + 1) m) else []
termination_by s.size + 1 - i
decreasing_by
  all_goals omega

theorem brk_end (s sep : ByteArray) (i m : Nat) (h : ¬ (i + sep.size ≤ s.size ∧ 0 < m)) : brk s sep i m = [] := by rw [brk, dif_neg h]
theorem brk_hit (s sep : ByteArray) (i m : Nat) (h1 : 1 ≤ sep.size) (hi : i + sep.size ≤ s.size) (ha : atB s sep i = true) : brk s sep i (m + 1) = i :: brk s sep (i + sep.size) m := by
  rw [brk, dif_pos ⟨hi, by omega⟩, if_pos ha, Nat.max_eq_right h1]; rfl
theorem brk_step (s sep : ByteArray) (i m : Nat) (hi : i + sep.size ≤ s.size) (ha : atB s sep i = false) : brk s sep i m = brk s sep (i + 1) m := by
  by_cases hm : 0 < m
  · rw [brk, dif_pos ⟨hi, hm⟩, if_neg (by rw [ha]; decide)]
  · rw [brk_end s sep i m (by omega), brk_end s sep (i + 1) m (by omega)]
theorem brk_far (s sep : ByteArray) (m : Nat) : ∀ n a b, b - a ≤ n → a ≤ b → (∀ j : Nat, a ≤ j → j < b → atB s sep j = false) → brk s sep a m = brk s sep b m
  | n, a, b, hn, hab, hno => by
    rcases Nat.eq_or_lt_of_le hab with rfl | hlt
    · rfl
    · by_cases ha : a + sep.size ≤ s.size
      · rw [brk_step s sep a m ha (hno a (Nat.le_refl _) hlt)]
        match n, hn with
        | 0, hn => omega
        | n + 1, hn => exact brk_far s sep m n (a + 1) b (by omega) hlt (fun j h1 h2 => hno j (by omega) h2)
      · rw [brk_end s sep a m (by omega), brk_end s sep b m (by omega)]
theorem brk_none (s sep : ByteArray) (a m : Nat) (ha : a ≤ s.size) (h1 : 1 ≤ sep.size) (hno : ∀ j : Nat, a ≤ j → j ≤ s.size → atB s sep j = false) : brk s sep a m = [] := by
  rw [brk_far s sep m (s.size - a) a s.size (by omega) ha (fun j h1 h2 => hno j h1 (by omega))]
  exact brk_end s sep _ m (by omega)
theorem brk_len (s sep : ByteArray) (h1 : 1 ≤ sep.size) : ∀ n i m, s.size + 1 - i ≤ n → (brk s sep i m).length ≤ s.size + 1 - i
  | n, i, m, hn => by
    by_cases h : i + sep.size ≤ s.size ∧ 0 < m
    · match n, hn with
      | 0, hn => omega
      | n + 1, hn =>
        obtain ⟨k, rfl⟩ : ∃ k, m = k + 1 := ⟨m - 1, by omega⟩
        cases ha : atB s sep i with
        | true =>
          rw [brk_hit s sep i k h1 h.1 ha, List.length_cons]
          have := brk_len s sep h1 n (i + sep.size) k (by omega)
          omega
        | false =>
          rw [brk_step s sep i _ h.1 ha]
          have := brk_len s sep h1 n (i + 1) (k + 1) (by omega)
          omega
    · rw [brk_end s sep i m h]; exact Nat.zero_le _
theorem brk_in (s sep : ByteArray) (h1 : 1 ≤ sep.size) : ∀ n i m, s.size + 1 - i ≤ n → ∀ x ∈ brk s sep i m, i ≤ x ∧ x + sep.size ≤ s.size
  | n, i, m, hn, x, hx => by
    by_cases h : i + sep.size ≤ s.size ∧ 0 < m
    · match n, hn with
      | 0, hn => omega
      | n + 1, hn =>
        obtain ⟨k, rfl⟩ : ∃ k, m = k + 1 := ⟨m - 1, by omega⟩
        cases ha : atB s sep i with
        | true =>
          rw [brk_hit s sep i k h1 h.1 ha] at hx
          rcases List.mem_cons.1 hx with rfl | hx
          · exact ⟨Nat.le_refl _, h.1⟩
          · have := brk_in s sep h1 n (i + sep.size) k (by omega) x hx
            omega
        | false =>
          rw [brk_step s sep i _ h.1 ha] at hx
          have := brk_in s sep h1 n (i + 1) (k + 1) (by omega) x hx
          omega
    · rw [brk_end s sep i m h] at hx; cases hx

/-- The pieces of s from a place on, parted at some places; sl: how long what parts them is, kl: how much of it stays. -/
def piecesOf (s : ByteArray) (sl kl : Nat) : Nat → List Nat → List ByteArray
  | a, [] => [s.extract a s.size]
  | a, i :: r => s.extract a (i + kl) :: piecesOf s sl kl (i + sl) r
theorem piecesOf_len (s : ByteArray) (sl kl : Nat) : ∀ (l : List Nat) a, (piecesOf s sl kl a l).length = l.length + 1
  | [], _ => rfl
  | i :: r, a => by rw [piecesOf, List.length_cons, piecesOf_len s sl kl r, List.length_cons]

theorem x_to (s : ByteArray) (a k : Nat) (h : a + k ≤ s.size) : (s.extract a s.size).extract 0 k = s.extract a (a + k) := by
  apply ByteArray.ext; apply Array.toList_inj.1
  rw [extract_data, extract_data, extract_data]
  simp only [List.drop_zero, Nat.sub_zero]
  rw [List.take_take, Nat.min_eq_left (by omega), show a + k - a = k by omega]
theorem x_from (s : ByteArray) (a k : Nat) (h : a + k ≤ s.size) : (s.extract a s.size).extract k (s.extract a s.size).size = s.extract (a + k) s.size := by
  apply ByteArray.ext; apply Array.toList_inj.1
  have hz : (s.extract a s.size).size = s.size - a := by rw [ByteArray.size_extract]; omega
  rw [extract_data, extract_data, extract_data, hz, List.drop_take, List.drop_drop, List.take_take]
  congr 1
  omega
theorem x_list (s : ByteArray) (a : Nat) : (s.extract a s.size).data.toList = s.data.toList.drop a := by
  rw [extract_data]; exact List.take_of_length_le (by simp [ByteArray.size_data])
theorem occ_drop (l sub : List UInt8) (a j : Nat) : occAt (l.drop a) sub j = occAt l sub (a + j) := by
  unfold occAt; rw [List.drop_drop]

theorem split_pieces (s sep : ByteArray) (sv : Nat) (h1 : 1 ≤ sep.size) (hsv : sv ≤ sep.size) : ∀ k a, a ≤ s.size → splitB sep sv k (s.extract a s.size) = piecesOf s sep.size sv a (brk s sep a k)
  | 0, a, ha => by rw [brk_end s sep a 0 (by omega)]; rfl
  | k + 1, a, ha => by
    have hl : s.data.toList.length = s.size := by simp
    rcases index_spec (s.extract a s.size).data.toList sep.data.toList with ⟨hm, hno⟩ | ⟨i, hi, hil, hocc, hno⟩
    · rw [splitB_miss sep sv _ _ hm, brk_none s sep a _ ha h1 (fun j hj1 hj2 => ?_)]
      · rfl
      · have := hno (j - a) (by rw [x_list, List.length_drop]; omega)
        rw [x_list, occ_drop, show a + (j - a) = j by omega] at this
        rw [atB_occ s sep j hj2]; exact this
    · have hroom : a + i + sep.size ≤ s.size := by
        rcases occAt_room hocc with h | h
        · rw [x_list, List.length_drop] at h
          have : sep.data.toList.length = sep.size := by simp
          omega
        · have : sep.size = 0 := by have := congrArg List.length h; simpa using this
          omega
      have hat : atB s sep ((a + i : Nat) : Int) = true := by
        rw [atB_occ s sep (a + i) (by omega)]
        rw [x_list, occ_drop] at hocc
        exact hocc
      rw [splitB_hit sep sv k _ i hi, brk_far s sep _ i a (a + i) (by omega) (by omega) (fun j hj1 hj2 => ?_), brk_hit s sep (a + i) k h1 hroom hat]
      · rw [x_to s a (i + sv) (by omega), x_from s a (i + sep.size) (by omega), show a + (i + sep.size) = a + i + sep.size by omega, split_pieces s sep sv h1 hsv k (a + i + sep.size) hroom]
        show _ = s.extract a (a + i + sv) :: _
        rw [show a + (i + sv) = a + i + sv by omega]
      · have := hno (j - a) (by omega)
        rw [x_list, occ_drop, show a + (j - a) = j by omega] at this
        rw [atB_occ s sep j (by omega)]; exact this

theorem count_size (sep : ByteArray) (h1 : 1 ≤ sep.size) : ∀ n (x : ByteArray), x.size ≤ n → countB x sep ≤ x.size
  | n, x, hn => by
    rcases indexB_cases x sep with h | ⟨i, h, hr⟩
    · rw [countB_miss x sep h]; exact Nat.zero_le _
    · rw [countB_hit x sep i h1 h]
      match n, hn with
      | 0, hn => omega
      | n + 1, hn =>
        have hz : (x.extract (i + sep.size) x.size).size = x.size - (i + sep.size) := by rw [ByteArray.size_extract]; omega
        have := count_size sep h1 n (x.extract (i + sep.size) x.size) (by omega)
        omega
theorem split_more (sep : ByteArray) (sv : Nat) (h1 : 1 ≤ sep.size) : ∀ k (x : ByteArray), countB x sep ≤ k → splitB sep sv k x = splitB sep sv (countB x sep) x
  | k, x, hk => by
    rcases indexB_cases x sep with h | ⟨i, h, hr⟩
    · rw [splitB_miss sep sv _ x h, splitB_miss sep sv _ x h]
    · have hc := countB_hit x sep i h1 h
      match k, hk with
      | 0, hk => omega
      | k + 1, hk =>
        rw [hc, Nat.add_comm 1, splitB_hit sep sv _ x i h, splitB_hit sep sv _ x i h, split_more sep sv h1 k _ (by omega)]

/-- What Split, SplitN make are the pieces between the places. -/
theorem pcs_pieces (s sep : ByteArray) (sv : Nat) (n : Int) (M : Nat) (h1 : 1 ≤ sep.size) (hsv : sv ≤ sep.size) (hn : n ≠ 0) (hneg : n < 0 → s.size ≤ M) (hpos : 0 < n → (M : Int) = n - 1 ∨ (s.size ≤ M ∧ (s.size : Int) ≤ n - 1)) : pcs s sep sv n = piecesOf s sep.size sv 0 (brk s sep 0 M) := by
  have h0 := split_pieces s sep sv h1 hsv M 0 (Nat.zero_le _)
  rw [show s.extract 0 s.size = s from ByteArray.extract_zero_size] at h0
  rw [← h0]
  have hc := count_size sep h1 s.size s (Nat.le_refl _)
  have hN := pN_eq s sep n hn
  unfold pcs
  by_cases hlt : n < 0
  · rw [if_pos hlt, Int.min_eq_left (by omega)] at hN
    have := hneg hlt
    rw [split_more sep sv h1 M s (by omega), show pN s sep n - 1 = countB s sep by omega]
  · rw [if_neg hlt] at hN
    have hM := hpos (by omega)
    by_cases hle : n ≤ (s.size : Int) + 1
    · rw [Int.min_eq_left hle] at hN
      rcases hM with hM | ⟨hM1, hM2⟩
      · rw [show pN s sep n - 1 = M by omega]
      · rw [split_more sep sv h1 M s (by omega), split_more sep sv h1 (pN s sep n - 1) s (by omega)]
    · rw [Int.min_eq_right (by omega)] at hN
      rw [split_more sep sv h1 M s (by omega), split_more sep sv h1 (pN s sep n - 1) s (by omega)]
end Go.Proofs.YtpaieadnicmplaaDoor

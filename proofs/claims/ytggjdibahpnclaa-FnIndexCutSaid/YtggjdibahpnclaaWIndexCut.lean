/- The walk of FnIndexCut. -/
import Derived.Test.YtggjdibahpnclaaCut
namespace Go.Proofs.Ytggjdibahpnclaa
open Go.RowKit Go.Lib

theorem idx_ab1 : index (ByteArray.mk #[97, 98]).data.toList (ByteArray.mk #[98]).data.toList = 1 := by decide

theorem toList_extract (s : ByteArray) (a b : Nat) : (s.extract a b).toList = (s.data.toList.drop a).take (b - a) := ext_win s a b

/-- The parts around a place, and what stands there, are the text. -/
theorem cut_back (s sep : ByteArray) (k : Nat) (hk : k + sep.size ≤ s.size) (h : atB s sep k = true) : ((s.extract 0 k ++ sep ++ s.extract (k + sep.size) s.size).toList == s.toList) = true := by
  rw [atB_in s sep k hk] at h
  have e := eq_of_beq h
  rw [toList_extract, show k + sep.size - k = sep.size by omega, Lib.toList_data] at e
  rw [beq_iff_eq, Lib.toList_data, Lib.toList_data]
  simp only [ByteArray.data_append, Array.toList_append]
  have e1 := toList_extract s 0 k
  have e2 := toList_extract s (k + sep.size) s.size
  rw [Lib.toList_data] at e1 e2
  rw [e1, e2, ← e]
  have hl : s.data.toList.length = s.size := by simp
  rw [show s.size - (k + sep.size) = (s.data.toList.drop (k + sep.size)).length by simp, List.take_length, List.drop_zero, Nat.sub_zero, List.append_assoc, ← List.drop_drop, List.take_append_drop, List.take_append_drop]

set_option maxHeartbeats 2000000 in
theorem icut_no (s sep : ByteArray) (w : World) (hs : s.size ≤ 2147483647) (hp : sep.size ≤ 2147483647) (h : index s.data.toList sep.data.toList = -1) :
    Calls Try.prog 13 #[.string s, .string sep] w fun e w' => e = .returned (.bool true) ∧ Below w.heap.size w w' := by
  have H := Lib.hid h
  clear h
  go_enter Try.func13, Try.ntmps13
  go_wp2_with fail
  refine (StrCut_no s sep _ (by omega) H.out).mono ?_
  rintro e w1 ⟨rfl, bel⟩
  unfold PartsOf
  go_wp2_with fail
  refine (StrIndex s sep _ (by omega)).mono ?_
  rintro e w2 ⟨rfl, rfl⟩
  rw [H.out]
  go_wp2_with fail
  refine (StrIndex ⟨#[97, 98]⟩ ⟨#[98]⟩ _ (by decide)).mono ?_
  rintro e w2 ⟨rfl, rfl⟩
  rw [idx_ab1]
  go_wp2
  go_ret
  refine ⟨rfl, ?_⟩
  exact Below.trans bel (by repeat (first | exact Below.refl _ _ | refine Below.setCell ?_ bel.size _ | refine Below.alloc ?_ bel.size _))

set_option maxHeartbeats 2000000 in
theorem icut_yes (s sep : ByteArray) (k : Nat) (w : World) (hs : s.size ≤ 2147483647) (hp : sep.size ≤ 2147483647) (h : index s.data.toList sep.data.toList = k) (hk : k + sep.size ≤ s.size) (ha : atB s sep k = true) :
    Calls Try.prog 13 #[.string s, .string sep] w fun e w' => e = .returned (.bool true) ∧ Below w.heap.size w w' := by
  have H := Lib.hid h
  have hback := cut_back s sep k hk ha
  have z1 : (s.extract 0 k).size = k := by simp; omega
  have z2 : (s.extract (k + sep.size) s.size).size = s.size - (k + sep.size) := by simp
  clear h ha
  go_enter Try.func13, Try.ntmps13
  go_wp2_with fail
  refine (StrCut_yes s sep k _ (by omega) H.out hk).mono ?_
  rintro e w1 ⟨rfl, bel⟩
  unfold PartsOf
  go_wp2_with fail
  refine (StrIndex s sep _ (by omega)).mono ?_
  rintro e w2 ⟨rfl, rfl⟩
  rw [H.out]
  go_wp2
  go_ret
  refine ⟨rfl, ?_⟩
  exact Below.trans bel (by repeat (first | exact Below.refl _ _ | refine Below.setCell ?_ bel.size _ | refine Below.alloc ?_ bel.size _))

theorem walk_FnIndexCut (s sep : ByteArray) (w : World) (hs : s.size ≤ maxLen) (hp : sep.size ≤ maxLen) :
    Calls Try.prog 13 #[.string s, .string sep] w fun e w' => e = .returned (.bool true) ∧ Below w.heap.size w w' := by
  unfold maxLen at hs hp
  by_cases hbig : 2147483647 < s.size
  · go_enter Try.func13, Try.ntmps13
    go_wp2
    go_ret
    exact ⟨rfl, Below.refl _ _⟩
  · by_cases hbig2 : 2147483647 < sep.size
    · go_enter Try.func13, Try.ntmps13
      go_wp2
      go_ret
      exact ⟨rfl, Below.refl _ _⟩
    · rcases index_cases s sep with ⟨h, _⟩ | ⟨k, h, hk, _, ha⟩
      · exact icut_no s sep w (by omega) (by omega) h
      · exact icut_yes s sep k w (by omega) (by omega) h hk ha
end Go.Proofs.Ytggjdibahpnclaa

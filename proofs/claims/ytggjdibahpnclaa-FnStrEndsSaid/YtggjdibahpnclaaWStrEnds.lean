/- The walk of FnStrEnds. -/
import Derived.Test.YtggjdibahpnclaaBas
namespace Go.Proofs.Ytggjdibahpnclaa
open Go.RowKit Go.Lib

/-- Does sep stand at the head, at the tail? -/
def headB (s sep : ByteArray) : Bool := atB s sep 0
def tailB (s sep : ByteArray) : Bool := atB s sep ((s.size : Int) - sep.size)
theorem headB_in (s sep : ByteArray) (h : sep.size ≤ s.size) : headB s sep = ((s.extract 0 sep.size).toList == sep.toList) := by
  have := atB_in s sep 0 (by omega)
  rw [Nat.zero_add] at this; exact this
theorem headB_long (s sep : ByteArray) (h : s.size < sep.size) : headB s sep = false := atB_long s sep 0 (by omega)
theorem tailB_in (s sep : ByteArray) (h : sep.size ≤ s.size) : tailB s sep = ((s.extract (s.size - sep.size) s.size).toList == sep.toList) := by
  have := atB_in s sep (s.size - sep.size) (by omega)
  rw [show s.size - sep.size + sep.size = s.size by omega] at this
  rw [← this]; unfold tailB; congr 1; omega
theorem tailB_long (s sep : ByteArray) (h : s.size < sep.size) : tailB s sep = false := atB_neg s sep _ (by omega)
theorem headB_le {s sep : ByteArray} (h : headB s sep = true) : sep.size ≤ s.size := by
  rcases Nat.lt_or_ge s.size sep.size with h' | h'
  · rw [headB_long s sep h'] at h; cases h
  · exact h'
theorem tailB_le {s sep : ByteArray} (h : tailB s sep = true) : sep.size ≤ s.size := by
  rcases Nat.lt_or_ge s.size sep.size with h' | h'
  · rw [tailB_long s sep h'] at h; cases h
  · exact h'

set_option maxHeartbeats 400000 in
theorem HasPrefix (s sep : ByteArray) (w : World) (_hs : s.size < 4294967281) (_hp : sep.size < 4294967281) :
    Calls Try.prog 68 #[.string s, .string sep] w fun e w' => e = .returned (.bool (headB s sep)) ∧ w = w' := by
  by_cases hl : sep.size ≤ s.size
  · have H := Lib.hid (headB_in s sep hl)
    have hx : (sep.size : Int) ≤ s.size := by omega
    go_enter Try.func68, Try.ntmps68
    go_wp2
    go_ret
    exact ⟨ret_bool H.out.symm, rfl⟩
  · have H := Lib.hid (headB_long s sep (by omega))
    have hx : (s.size : Int) < sep.size := by omega
    go_enter Try.func68, Try.ntmps68
    go_wp2
    go_ret
    exact ⟨ret_bool H.out.symm, rfl⟩

set_option maxHeartbeats 400000 in
theorem HasSuffix (s sep : ByteArray) (w : World) (hs : s.size < 4294967281) (hp : sep.size < 4294967281) :
    Calls Try.prog 69 #[.string s, .string sep] w fun e w' => e = .returned (.bool (tailB s sep)) ∧ w = w' := by
  by_cases hl : sep.size ≤ s.size
  · have H := Lib.hid (tailB_in s sep hl)
    have hx : (sep.size : Int) ≤ s.size := by omega
    go_enter Try.func69, Try.ntmps69
    go_wp2
    go_ret
    exact ⟨ret_bool H.out.symm, rfl⟩
  · have H := Lib.hid (tailB_long s sep (by omega))
    have hx : (s.size : Int) < sep.size := by omega
    go_enter Try.func69, Try.ntmps69
    go_wp2
    go_ret
    exact ⟨ret_bool H.out.symm, rfl⟩

set_option maxHeartbeats 400000 in
theorem StrHasPrefix (s sep : ByteArray) (w : World) (hs : s.size < 4294967281) (hp : sep.size < 4294967281) :
    Calls Try.prog 33 #[.string s, .string sep] w fun e w' => e = .returned (.bool (headB s sep)) ∧ w = w' := by
  go_enter Try.func33, Try.ntmps33
  go_wp2_with (first | (go_at_call 68; refine (HasPrefix s sep _ hs hp).mono ?_; rintro e w' ⟨rfl, rfl⟩) | go_in)
  go_ret
  exact ⟨rfl, rfl⟩

set_option maxHeartbeats 400000 in
theorem StrHasSuffix (s sep : ByteArray) (w : World) (hs : s.size < 4294967281) (hp : sep.size < 4294967281) :
    Calls Try.prog 34 #[.string s, .string sep] w fun e w' => e = .returned (.bool (tailB s sep)) ∧ w = w' := by
  go_enter Try.func34, Try.ntmps34
  go_wp2_with (first | (go_at_call 69; refine (HasSuffix s sep _ hs hp).mono ?_; rintro e w' ⟨rfl, rfl⟩) | go_in)
  go_ret
  exact ⟨rfl, rfl⟩

set_option maxHeartbeats 400000 in
theorem StrTrimPrefix_yes (s sep : ByteArray) (w : World) (hs : s.size < 4294967281) (hp : sep.size < 4294967281) (h : headB s sep = true) :
    Calls Try.prog 35 #[.string s, .string sep] w fun e w' => e = .returned (.string (s.extract sep.size s.size)) ∧ w = w' := by
  have hl := headB_le h
  have hx : (sep.size : Int) ≤ s.size := by omega
  go_enter Try.func35, Try.ntmps35
  go_wp2_with (first | (go_at_call 68; refine (HasPrefix s sep _ hs hp).mono ?_; rintro e w' ⟨rfl, rfl⟩) | go_in)
  go_ret
  exact ⟨rfl, rfl⟩

set_option maxHeartbeats 400000 in
theorem StrTrimPrefix_no (s sep : ByteArray) (w : World) (hs : s.size < 4294967281) (hp : sep.size < 4294967281) (h : headB s sep = false) :
    Calls Try.prog 35 #[.string s, .string sep] w fun e w' => e = .returned (.string s) ∧ w = w' := by
  go_enter Try.func35, Try.ntmps35
  go_wp2_with (first | (go_at_call 68; refine (HasPrefix s sep _ hs hp).mono ?_; rintro e w' ⟨rfl, rfl⟩) | go_in)
  go_ret
  exact ⟨rfl, rfl⟩

set_option maxHeartbeats 400000 in
theorem StrTrimSuffix_yes (s sep : ByteArray) (w : World) (hs : s.size < 4294967281) (hp : sep.size < 4294967281) (h : tailB s sep = true) :
    Calls Try.prog 36 #[.string s, .string sep] w fun e w' => e = .returned (.string (s.extract 0 (s.size - sep.size))) ∧ w = w' := by
  have hl := tailB_le h
  have hx : (sep.size : Int) ≤ s.size := by omega
  go_enter Try.func36, Try.ntmps36
  go_wp2_with (first | (go_at_call 69; refine (HasSuffix s sep _ hs hp).mono ?_; rintro e w' ⟨rfl, rfl⟩) | go_in)
  go_ret
  exact ⟨rfl, rfl⟩

set_option maxHeartbeats 400000 in
theorem StrTrimSuffix_no (s sep : ByteArray) (w : World) (hs : s.size < 4294967281) (hp : sep.size < 4294967281) (h : tailB s sep = false) :
    Calls Try.prog 36 #[.string s, .string sep] w fun e w' => e = .returned (.string s) ∧ w = w' := by
  go_enter Try.func36, Try.ntmps36
  go_wp2_with (first | (go_at_call 69; refine (HasSuffix s sep _ hs hp).mono ?_; rintro e w' ⟨rfl, rfl⟩) | go_in)
  go_ret
  exact ⟨rfl, rfl⟩

set_option maxHeartbeats 400000 in
theorem StrCutPrefix_yes (s sep : ByteArray) (w : World) (hs : s.size < 4294967281) (hp : sep.size < 4294967281) (h : headB s sep = true) :
    Calls Try.prog 31 #[.string s, .string sep] w fun e w' => e = .returned (.tuple #[.string (s.extract sep.size s.size), .bool true]) ∧ w = w' := by
  have hl := headB_le h
  have hx : (sep.size : Int) ≤ s.size := by omega
  go_enter Try.func31, Try.ntmps31
  go_wp2_with (first | (go_at_call 68; refine (HasPrefix s sep _ hs hp).mono ?_; rintro e w' ⟨rfl, rfl⟩) | go_in)
  go_ret2
  exact ⟨rfl, rfl⟩

set_option maxHeartbeats 400000 in
theorem StrCutPrefix_no (s sep : ByteArray) (w : World) (hs : s.size < 4294967281) (hp : sep.size < 4294967281) (h : headB s sep = false) :
    Calls Try.prog 31 #[.string s, .string sep] w fun e w' => e = .returned (.tuple #[.string s, .bool false]) ∧ w = w' := by
  go_enter Try.func31, Try.ntmps31
  go_wp2_with (first | (go_at_call 68; refine (HasPrefix s sep _ hs hp).mono ?_; rintro e w' ⟨rfl, rfl⟩) | go_in)
  go_ret2
  exact ⟨rfl, rfl⟩

set_option maxHeartbeats 400000 in
theorem StrCutSuffix_yes (s sep : ByteArray) (w : World) (hs : s.size < 4294967281) (hp : sep.size < 4294967281) (h : tailB s sep = true) :
    Calls Try.prog 32 #[.string s, .string sep] w fun e w' => e = .returned (.tuple #[.string (s.extract 0 (s.size - sep.size)), .bool true]) ∧ w = w' := by
  have hl := tailB_le h
  have hx : (sep.size : Int) ≤ s.size := by omega
  go_enter Try.func32, Try.ntmps32
  go_wp2_with (first | (go_at_call 69; refine (HasSuffix s sep _ hs hp).mono ?_; rintro e w' ⟨rfl, rfl⟩) | go_in)
  go_ret2
  exact ⟨rfl, rfl⟩

set_option maxHeartbeats 400000 in
theorem StrCutSuffix_no (s sep : ByteArray) (w : World) (hs : s.size < 4294967281) (hp : sep.size < 4294967281) (h : tailB s sep = false) :
    Calls Try.prog 32 #[.string s, .string sep] w fun e w' => e = .returned (.tuple #[.string s, .bool false]) ∧ w = w' := by
  go_enter Try.func32, Try.ntmps32
  go_wp2_with (first | (go_at_call 69; refine (HasSuffix s sep _ hs hp).mono ?_; rintro e w' ⟨rfl, rfl⟩) | go_in)
  go_ret2
  exact ⟨rfl, rfl⟩

set_option maxHeartbeats 4000000 in
set_option maxRecDepth 100000 in
theorem ends_yes_yes (s sep : ByteArray) (w : World) (zs : s.size ≤ 2147483647) (zp : sep.size ≤ 2147483647) (h1 : headB s sep = true) (h2 : tailB s sep = true) :
    Calls Try.prog 10 #[.string s, .string sep] w fun e w' => e = .returned (.bool true) ∧ Below w.heap.size w w' := by
  have H1 := Lib.hid h1
  have H2 := Lib.hid h2
  have hl := headB_le h1
  have hl2 := tailB_le h2
  clear h1 h2
  have hs : s.size < 4294967281 := by omega
  have hp : sep.size < 4294967281 := by omega
  go_enter Try.func10, Try.ntmps10
  go_wp2_with fail
  refine (SeAt s sep 0 _ hs hp (by omega) (by omega)).mono ?_
  rintro e w' ⟨rfl, rfl⟩
  rw [show atB s sep 0 = true from H1.out]
  go_wp2_with fail
  refine (SeAt s sep ((s.size : Int) - sep.size) _ hs hp (by omega) (by omega)).mono ?_
  rintro e w' ⟨rfl, rfl⟩
  rw [show atB s sep ((s.size : Int) - sep.size) = true from H2.out]
  go_wp2_with fail
  refine (StrCutPrefix_yes s sep _ hs hp H1.out).mono ?_
  rintro e w' ⟨rfl, rfl⟩
  go_wp2_with fail
  refine (StrCutSuffix_yes s sep _ hs hp H2.out).mono ?_
  rintro e w' ⟨rfl, rfl⟩
  go_wp2_with fail
  refine (StrHasPrefix s sep _ hs hp).mono ?_
  rintro e w' ⟨rfl, rfl⟩
  rw [H1.out]
  go_wp2_with fail
  refine (StrHasSuffix s sep _ hs hp).mono ?_
  rintro e w' ⟨rfl, rfl⟩
  rw [H2.out]
  go_wp2_with fail
  refine (StrTrimPrefix_yes s sep _ hs hp H1.out).mono ?_
  rintro e w' ⟨rfl, rfl⟩
  go_wp2_with fail
  refine (StrTrimSuffix_yes s sep _ hs hp H2.out).mono ?_
  rintro e w' ⟨rfl, rfl⟩
  go_wp2_with fail
  refine (StrHasPrefix ⟨#[97, 98]⟩ ⟨#[97]⟩ _ (by decide) (by decide)).mono ?_
  rintro e w' ⟨rfl, rfl⟩
  rw [show headB ⟨#[97, 98]⟩ ⟨#[97]⟩ = true by decide]
  go_wp2_with fail
  go_ret
  exact ⟨rfl, Below.refl _ _⟩

set_option maxHeartbeats 4000000 in
set_option maxRecDepth 100000 in
theorem ends_yes_no (s sep : ByteArray) (w : World) (zs : s.size ≤ 2147483647) (zp : sep.size ≤ 2147483647) (h1 : headB s sep = true) (h2 : tailB s sep = false) :
    Calls Try.prog 10 #[.string s, .string sep] w fun e w' => e = .returned (.bool true) ∧ Below w.heap.size w w' := by
  have H1 := Lib.hid h1
  have H2 := Lib.hid h2
  have hl := headB_le h1
  clear h1 h2
  have hs : s.size < 4294967281 := by omega
  have hp : sep.size < 4294967281 := by omega
  go_enter Try.func10, Try.ntmps10
  go_wp2_with fail
  refine (SeAt s sep 0 _ hs hp (by omega) (by omega)).mono ?_
  rintro e w' ⟨rfl, rfl⟩
  rw [show atB s sep 0 = true from H1.out]
  go_wp2_with fail
  refine (SeAt s sep ((s.size : Int) - sep.size) _ hs hp (by omega) (by omega)).mono ?_
  rintro e w' ⟨rfl, rfl⟩
  rw [show atB s sep ((s.size : Int) - sep.size) = false from H2.out]
  go_wp2_with fail
  refine (StrCutPrefix_yes s sep _ hs hp H1.out).mono ?_
  rintro e w' ⟨rfl, rfl⟩
  go_wp2_with fail
  refine (StrCutSuffix_no s sep _ hs hp H2.out).mono ?_
  rintro e w' ⟨rfl, rfl⟩
  go_wp2_with fail
  refine (StrHasPrefix s sep _ hs hp).mono ?_
  rintro e w' ⟨rfl, rfl⟩
  rw [H1.out]
  go_wp2_with fail
  refine (StrHasSuffix s sep _ hs hp).mono ?_
  rintro e w' ⟨rfl, rfl⟩
  rw [H2.out]
  go_wp2_with fail
  refine (StrTrimPrefix_yes s sep _ hs hp H1.out).mono ?_
  rintro e w' ⟨rfl, rfl⟩
  go_wp2_with fail
  refine (StrTrimSuffix_no s sep _ hs hp H2.out).mono ?_
  rintro e w' ⟨rfl, rfl⟩
  go_wp2_with fail
  refine (StrHasPrefix ⟨#[97, 98]⟩ ⟨#[97]⟩ _ (by decide) (by decide)).mono ?_
  rintro e w' ⟨rfl, rfl⟩
  rw [show headB ⟨#[97, 98]⟩ ⟨#[97]⟩ = true by decide]
  go_wp2_with fail
  go_ret
  exact ⟨rfl, Below.refl _ _⟩

set_option maxHeartbeats 4000000 in
set_option maxRecDepth 100000 in
theorem ends_no_yes (s sep : ByteArray) (w : World) (zs : s.size ≤ 2147483647) (zp : sep.size ≤ 2147483647) (h1 : headB s sep = false) (h2 : tailB s sep = true) :
    Calls Try.prog 10 #[.string s, .string sep] w fun e w' => e = .returned (.bool true) ∧ Below w.heap.size w w' := by
  have H1 := Lib.hid h1
  have H2 := Lib.hid h2
  have hl2 := tailB_le h2
  clear h1 h2
  have hs : s.size < 4294967281 := by omega
  have hp : sep.size < 4294967281 := by omega
  go_enter Try.func10, Try.ntmps10
  go_wp2_with fail
  refine (SeAt s sep 0 _ hs hp (by omega) (by omega)).mono ?_
  rintro e w' ⟨rfl, rfl⟩
  rw [show atB s sep 0 = false from H1.out]
  go_wp2_with fail
  refine (SeAt s sep ((s.size : Int) - sep.size) _ hs hp (by omega) (by omega)).mono ?_
  rintro e w' ⟨rfl, rfl⟩
  rw [show atB s sep ((s.size : Int) - sep.size) = true from H2.out]
  go_wp2_with fail
  refine (StrCutPrefix_no s sep _ hs hp H1.out).mono ?_
  rintro e w' ⟨rfl, rfl⟩
  go_wp2_with fail
  refine (StrCutSuffix_yes s sep _ hs hp H2.out).mono ?_
  rintro e w' ⟨rfl, rfl⟩
  go_wp2_with fail
  refine (StrHasPrefix s sep _ hs hp).mono ?_
  rintro e w' ⟨rfl, rfl⟩
  rw [H1.out]
  go_wp2_with fail
  refine (StrHasSuffix s sep _ hs hp).mono ?_
  rintro e w' ⟨rfl, rfl⟩
  rw [H2.out]
  go_wp2_with fail
  refine (StrTrimPrefix_no s sep _ hs hp H1.out).mono ?_
  rintro e w' ⟨rfl, rfl⟩
  go_wp2_with fail
  refine (StrTrimSuffix_yes s sep _ hs hp H2.out).mono ?_
  rintro e w' ⟨rfl, rfl⟩
  go_wp2_with fail
  refine (StrHasPrefix ⟨#[97, 98]⟩ ⟨#[97]⟩ _ (by decide) (by decide)).mono ?_
  rintro e w' ⟨rfl, rfl⟩
  rw [show headB ⟨#[97, 98]⟩ ⟨#[97]⟩ = true by decide]
  go_wp2_with fail
  go_ret
  exact ⟨rfl, Below.refl _ _⟩

set_option maxHeartbeats 4000000 in
set_option maxRecDepth 100000 in
theorem ends_no_no (s sep : ByteArray) (w : World) (zs : s.size ≤ 2147483647) (zp : sep.size ≤ 2147483647) (h1 : headB s sep = false) (h2 : tailB s sep = false) :
    Calls Try.prog 10 #[.string s, .string sep] w fun e w' => e = .returned (.bool true) ∧ Below w.heap.size w w' := by
  have H1 := Lib.hid h1
  have H2 := Lib.hid h2
  clear h1 h2
  have hs : s.size < 4294967281 := by omega
  have hp : sep.size < 4294967281 := by omega
  go_enter Try.func10, Try.ntmps10
  go_wp2_with fail
  refine (SeAt s sep 0 _ hs hp (by omega) (by omega)).mono ?_
  rintro e w' ⟨rfl, rfl⟩
  rw [show atB s sep 0 = false from H1.out]
  go_wp2_with fail
  refine (SeAt s sep ((s.size : Int) - sep.size) _ hs hp (by omega) (by omega)).mono ?_
  rintro e w' ⟨rfl, rfl⟩
  rw [show atB s sep ((s.size : Int) - sep.size) = false from H2.out]
  go_wp2_with fail
  refine (StrCutPrefix_no s sep _ hs hp H1.out).mono ?_
  rintro e w' ⟨rfl, rfl⟩
  go_wp2_with fail
  refine (StrCutSuffix_no s sep _ hs hp H2.out).mono ?_
  rintro e w' ⟨rfl, rfl⟩
  go_wp2_with fail
  refine (StrHasPrefix s sep _ hs hp).mono ?_
  rintro e w' ⟨rfl, rfl⟩
  rw [H1.out]
  go_wp2_with fail
  refine (StrHasSuffix s sep _ hs hp).mono ?_
  rintro e w' ⟨rfl, rfl⟩
  rw [H2.out]
  go_wp2_with fail
  refine (StrTrimPrefix_no s sep _ hs hp H1.out).mono ?_
  rintro e w' ⟨rfl, rfl⟩
  go_wp2_with fail
  refine (StrTrimSuffix_no s sep _ hs hp H2.out).mono ?_
  rintro e w' ⟨rfl, rfl⟩
  go_wp2_with fail
  refine (StrHasPrefix ⟨#[97, 98]⟩ ⟨#[97]⟩ _ (by decide) (by decide)).mono ?_
  rintro e w' ⟨rfl, rfl⟩
  rw [show headB ⟨#[97, 98]⟩ ⟨#[97]⟩ = true by decide]
  go_wp2_with fail
  go_ret
  exact ⟨rfl, Below.refl _ _⟩

theorem walk_FnStrEnds (s sep : ByteArray) (w : World) (hs : s.size ≤ maxLen) (hp : sep.size ≤ maxLen) :
    Calls Try.prog 10 #[.string s, .string sep] w fun e w' => e = .returned (.bool true) ∧ Below w.heap.size w w' := by
  unfold maxLen at hs hp
  by_cases hbig : 2147483647 < s.size
  · go_enter Try.func10, Try.ntmps10
    go_wp2
    go_ret
    exact ⟨rfl, Below.refl _ _⟩
  · by_cases hbig2 : 2147483647 < sep.size
    · go_enter Try.func10, Try.ntmps10
      go_wp2
      go_ret
      exact ⟨rfl, Below.refl _ _⟩
    · cases h1 : headB s sep <;> cases h2 : tailB s sep
      · exact ends_no_no s sep w (by omega) (by omega) h1 h2
      · exact ends_no_yes s sep w (by omega) (by omega) h1 h2
      · exact ends_yes_no s sep w (by omega) (by omega) h1 h2
      · exact ends_yes_yes s sep w (by omega) (by omega) h1 h2
end Go.Proofs.Ytggjdibahpnclaa

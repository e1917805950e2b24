/- The reference's words on texts: StartsAt, Index, In, HasByte. -/
import Derived.Test.YtnigbgablginnaaBas
set_option linter.unusedVariables false
namespace Go.Proofs.Ytnigbgablginnaa
open Go.RowKit Go.Lib

def atB (s sep : ByteArray) (i : Int) : Bool := decide (0 ≤ i) && (decide (i + sep.size ≤ s.size) && occAt s.data.toList sep.data.toList i.toNat)

theorem atB_neg (s sep : ByteArray) (i : Int) (h : i < 0) : atB s sep i = false := by
  unfold atB; rw [decide_eq_false (by omega)]; rfl
theorem atB_long (s sep : ByteArray) (i : Int) (h : (s.size : Int) < i + sep.size) : atB s sep i = false := by
  unfold atB; rw [decide_eq_false (p := i + sep.size ≤ s.size) (by omega)]; simp
theorem atB_in (s sep : ByteArray) (k : Nat) (h : k + sep.size ≤ s.size) : atB s sep k = ((s.extract k (k + sep.size)).toList == sep.toList) := by
  unfold atB; rw [decide_eq_true (by omega), decide_eq_true (by omega), Int.toNat_natCast, occ_of_piece s sep k h]; rfl
theorem atB_occ (s sep : ByteArray) (k : Nat) (h : k ≤ s.size) : atB s sep k = occAt s.data.toList sep.data.toList k := by
  by_cases hl : k + sep.size ≤ s.size
  · unfold atB; rw [decide_eq_true (by omega), decide_eq_true (by omega), Int.toNat_natCast]; rfl
  · rw [atB_long s sep k (by omega)]
    cases ho : occAt s.data.toList sep.data.toList k with
    | false => rfl
    | true =>
      rcases occAt_room ho with h' | h'
      · simp at h'; omega
      · have : sep.size = 0 := by have := congrArg List.length h'; simpa using this
        omega


set_option maxHeartbeats 1000000 in
theorem StartsAt (s sep : ByteArray) (i : Int) (w : World) (hs : s.size < 140737488355328) (hp : sep.size < 140737488355328) (h0 : -9223372036854775808 ≤ i) (h1 : i ≤ 9223372036854775807) :
    Calls Try.prog 38 #[.string s, .int .i64 i, .string sep] w fun e w' => e = .returned (.bool (atB s sep i)) ∧ w = w' := by
  by_cases hneg : i < 0
  · have H := Lib.hid (atB_neg s sep i hneg)
    go_enter Try.func38, Try.ntmps38
    go_wp2
    go_ret
    exact ⟨ret_bool H.out.symm, rfl⟩
  · obtain ⟨k, rfl⟩ := Int.eq_ofNat_of_zero_le (show 0 ≤ i by omega)
    have hd : decide ((k : Int) < 0) = false := decide_eq_false (by omega)
    by_cases hg : s.size < k
    · have H := Lib.hid (atB_long s sep k (by omega))
      go_enter Try.func38, Try.ntmps38
      go_wp2
      go_ret
      exact ⟨ret_bool H.out.symm, rfl⟩
    · have hd2 : decide (s.size < k) = false := decide_eq_false (by omega)
      by_cases hl : k + sep.size ≤ s.size
      · have H := Lib.hid (atB_in s sep k hl)
        have hx : (k : Int) + sep.size ≤ s.size := by omega
        have hy : ¬ ((s.size : Int) - k < sep.size) := by omega
        go_enter Try.func38, Try.ntmps38
        go_wp2
        go_ret
        exact ⟨ret_bool H.out.symm, rfl⟩
      · have H := Lib.hid (atB_long s sep k (by omega))
        have hy : (s.size : Int) - k < sep.size := by omega
        go_enter Try.func38, Try.ntmps38
        go_wp2
        go_ret
        exact ⟨ret_bool H.out.symm, rfl⟩

/-- No place before k. -/
def NoAt (s sep : ByteArray) (k : Nat) : Prop := ∀ j : Nat, j < k → atB s sep j = false
theorem NoAt.zero (s sep : ByteArray) : NoAt s sep 0 := fun _ h => absurd h (Nat.not_lt_zero _)
theorem NoAt.succ {s sep : ByteArray} {k : Nat} (h : NoAt s sep k) (hk : atB s sep k = false) : NoAt s sep (k + 1) := fun j hj => by
  rcases Nat.lt_or_eq_of_le (Nat.le_of_lt_succ hj) with h' | rfl
  · exact h j h'
  · exact hk
theorem NoAt.hit {s sep : ByteArray} {k : Nat} (h : NoAt s sep k) (hk : k ≤ s.size) (ha : atB s sep k = true) : index s.data.toList sep.data.toList = k :=
  index_first (by simpa using hk) (by rw [← atB_occ s sep k hk]; exact ha) (fun j hj => by rw [← atB_occ s sep j (by omega)]; exact h j hj)
theorem NoAt.miss {s sep : ByteArray} {k : Nat} (h : NoAt s sep k) (hk : s.size < k) : index s.data.toList sep.data.toList = -1 :=
  index_none (fun j hj => by
    have hj' : j ≤ s.size := by simpa using hj
    rw [← atB_occ s sep j hj']; exact h j (by omega))


set_option maxHeartbeats 400000 in
theorem SpIndex (s sep : ByteArray) (w : World) (hs : s.size < 140737488355328) (hp : sep.size < 140737488355328) :
    Calls Try.prog 27 #[.string s, .string sep] w fun e w' => e = .returned (.int .i64 (index s.data.toList sep.data.toList)) ∧ w = w' := by
  go_enter Try.func27, Try.ntmps27
  go_wp2
  go_loop [5] (fun i => ∃ k : Nat, k ≤ s.size + 1 ∧ i = .int .i64 k ∧ Hid (NoAt s sep k)) (fun i => s.size + 1 - (RowKit.intOf i).toNat)
  case atStart => exact ⟨0, Nat.zero_le _, rfl, NoAt.zero _ _⟩
  case round =>
    obtain ⟨k, hk, rfl, hn⟩ := hrel
    by_cases hlt : k ≤ s.size
    · by_cases hb : atB s sep k = true
      · go_wp2_with (go_at_call 38; refine (StartsAt s sep _ _ hs hp (by omega) (by omega)).mono ?_; rintro e w' ⟨rfl, rfl⟩)
        go_ret
        exact ⟨ret_int (hn.out.hit hlt hb).symm, rfl⟩
      · have hb' : atB s sep k = false := by simpa using hb
        clear hb
        go_wp2_with (go_at_call 38; refine (StartsAt s sep _ _ hs hp (by omega) (by omega)).mono ?_; rintro e w' ⟨rfl, rfl⟩)
        go_round
        case rel => exact ⟨k + 1, by omega, by go_num, hn.out.succ hb'⟩
        case measure => simp [RowKit.intOf]; omega
    · go_wp2
      go_ret
      exact ⟨ret_int (hn.out.miss (by omega)).symm, rfl⟩
set_option maxHeartbeats 400000 in
theorem SpIn (s sep : ByteArray) (w : World) (hs : s.size < 140737488355328) (hp : sep.size < 140737488355328) :
    Calls Try.prog 37 #[.string s, .string sep] w fun e w' => e = .returned (.bool (decide (0 ≤ index s.data.toList sep.data.toList))) ∧ w = w' := by
  go_enter Try.func37, Try.ntmps37
  go_wp2
  go_loop [5] (fun i => ∃ k : Nat, k ≤ s.size + 1 ∧ i = .int .i64 k ∧ Hid (NoAt s sep k)) (fun i => s.size + 1 - (RowKit.intOf i).toNat)
  case atStart => exact ⟨0, Nat.zero_le _, rfl, NoAt.zero _ _⟩
  case round =>
    obtain ⟨k, hk, rfl, hn⟩ := hrel
    by_cases hlt : k ≤ s.size
    · by_cases hb : atB s sep k = true
      · go_wp2_with (go_at_call 38; refine (StartsAt s sep _ _ hs hp (by omega) (by omega)).mono ?_; rintro e w' ⟨rfl, rfl⟩)
        go_ret
        exact ⟨ret_bool (by rw [hn.out.hit hlt hb]; exact (decide_eq_true (by omega)).symm), rfl⟩
      · have hb' : atB s sep k = false := by simpa using hb
        clear hb
        go_wp2_with (go_at_call 38; refine (StartsAt s sep _ _ hs hp (by omega) (by omega)).mono ?_; rintro e w' ⟨rfl, rfl⟩)
        go_round
        case rel => exact ⟨k + 1, by omega, by go_num, hn.out.succ hb'⟩
        case measure => simp [RowKit.intOf]; omega
    · go_wp2
      go_ret
      exact ⟨ret_bool (by rw [hn.out.miss (by omega)]; rfl), rfl⟩
end Go.Proofs.Ytnigbgablginnaa

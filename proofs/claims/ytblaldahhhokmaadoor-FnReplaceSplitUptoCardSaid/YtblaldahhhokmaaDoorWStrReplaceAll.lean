/- FnStrReplaceAll: the walk (texts of bulk at most 1048576). -/
import Derived.Test.YtblaldahhhokmaaDoorReplE
set_option linter.unusedVariables false
namespace Go.Proofs.YtblaldahhhokmaaDoor
open Go.RowKit Go.Lib

theorem emR_nil (s : ByteArray) : ∀ n a, s.size - a ≤ n → emR s [] a = s.data.toList.drop a
  | n, a, hn => by
    by_cases ha : a < s.size
    · have hw := decode_width_pos s a ha
      match n, hn with
      | 0, hn => omega
      | n + 1, hn =>
        rw [emR_step s [] a ha, emR_nil s n _ (by omega), List.append_nil, ← List.drop_drop, List.take_append_drop]
    · rw [emR_end s [] a (by omega), List.drop_eq_nil_of_le (by rw [← Lib.size_eq]; omega)]

theorem countB_le_size (s old : ByteArray) (h1 : 1 ≤ old.size) : countB s old ≤ s.size := by
  have := Lib.countB_mul_le old h1 s.size s (Nat.le_refl _)
  exact Nat.le_trans (Nat.le_mul_of_pos_right _ (by omega)) this

/-- What both make: by places. -/
noncomputable def repA (s old new : ByteArray) : ByteArray :=
  if old.size = 0 then replB s new 0 0 (starts s 0 ++ [s.size]) else replB s new old.size 0 (brk s old 0 (s.size + 1))
theorem mul_small {a b x y : Nat} (ha : a ≤ x) (hb : b ≤ y) : a * b ≤ x * y := Nat.mul_le_mul ha hb

theorem gReplaceAll (s old new : ByteArray) (w : World) (hk : s.size + old.size + new.size ≤ 1048576) (hT : Tabs w) :
    Calls Tryd.prog 62 #[.string s, .string old, .string new, .int .i64 (-1)] w fun e w' => e = .returned (.string (repA s old new)) ∧ Below w.heap.size w w' := by
  by_cases h0 : old.size = 0
  · obtain rfl : old = ByteArray.empty := ByteArray.ext (Array.eq_empty_of_size_eq_zero h0)
    unfold repA
    rw [if_pos h0]
    by_cases hn : new.size = 0
    · obtain rfl : new = ByteArray.empty := ByteArray.ext (Array.eq_empty_of_size_eq_zero hn)
      refine (gReplace_none s _ _ (-1) w (Or.inl rfl)).mono fun e w' ⟨he, hw⟩ => ⟨?_, hw ▸ Below.refl _ _⟩
      rw [he]
      refine congrArg _ (congrArg _ (b_eq ?_))
      rw [replB_list, show (ByteArray.empty.data.toList) = [] from rfl, ← emR_all, emR_nil s s.size 0 (by omega)]
      simp
    · have hl := starts_len s s.size 0 (by omega)
      have hm : ((starts s 0).length + 1) * new.size ≤ 1048577 * 1048576 := mul_small (by omega) (by omega)
      exact gReplace_empty s new w (by omega) (by omega) (by omega) hT
  · unfold repA
    rw [if_neg h0]
    have hc := countB_le_size s old (by omega)
    have hm : countB s old * new.size ≤ 1048576 * 1048576 := mul_small (by omega) (by omega)
    refine (gReplace s old new (-1) w (by omega) (by omega) (by omega)).mono fun e w' ⟨he, hw⟩ => ⟨?_, hw⟩
    rw [he]
    refine congrArg _ (congrArg _ (b_eq ?_))
    rw [replB_list, ← replaceAll_at s old new (by omega)]
    simp [replaceAll]

theorem SeReplacedAll (s old new : ByteArray) (w : World) (hk : s.size + old.size + new.size ≤ 1048576) :
    Calls Tryd.prog 28 #[.string s, .string old, .string new, .int .i64 (-1)] w fun e w' => e = .returned (.string (repA s old new)) ∧ Below w.heap.size w w' := by
  by_cases h0 : old.size = 0
  · obtain rfl : old = ByteArray.empty := ByteArray.ext (Array.eq_empty_of_size_eq_zero h0)
    unfold repA
    rw [if_pos h0]
    have hl := starts_len s s.size 0 (by omega)
    have h1 := replAt_len s new.data.toList 0 (starts s 0 ++ [s.size]) 0
    have hll : (starts s 0 ++ [s.size]).length = (starts s 0).length + 1 := by simp
    rw [hll, ← Lib.size_eq] at h1
    have hm : ((starts s 0).length + 1) * new.size ≤ 1048577 * 1048576 := mul_small (by omega) (by omega)
    have hm2 : ((starts s 0).length + 1 + 1) * s.size ≤ 1048578 * 1048576 := mul_small (by omega) (by omega)
    exact SeReplaced_empty s new w (by omega) (by omega)
  · unfold repA
    rw [if_neg h0]
    have hl := brk_len s old (by omega) (s.size + 1) 0 (s.size + 1) (by omega)
    have h1 := replAt_len s new.data.toList old.size (brk s old 0 (s.size + 1)) 0
    rw [← Lib.size_eq] at h1
    have hm : (brk s old 0 (s.size + 1)).length * new.size ≤ 1048577 * 1048576 := mul_small (by omega) (by omega)
    have hm2 : ((brk s old 0 (s.size + 1)).length + 1) * s.size ≤ 1048578 * 1048576 := mul_small (by omega) (by omega)
    exact SeReplaced_sep s old new w (by omega) (by omega) (by omega) (by omega)

theorem StrReplaceAll (s old new : ByteArray) (w : World) (hk : s.size + old.size + new.size ≤ 1048576) (hT : Tabs w) :
    Calls Tryd.prog 27 #[.string s, .string old, .string new] w fun e w' => e = .returned (.string (repA s old new)) ∧ Below w.heap.size w w' := by
  have HC := Lib.hid (gReplaceAll s old new w hk hT)
  clear hT
  have H1 : Hid (Calls Tryd.prog 46 #[.string s, .string old, .string new] w fun e w' => e = .returned (.string (repA s old new)) ∧ Below w.heap.size w w') := Lib.hid (by
    go_enter Tryd.func46, Tryd.ntmps46
    go_wp2_with fail
    refine HC.out.mono ?_
    rintro e w1 ⟨rfl, hB⟩
    have HB := Lib.hid hB
    clear hB
    go_wp2_with fail
    go_ret
    exact ⟨rfl, HB.out⟩)
  go_enter Tryd.func27, Tryd.ntmps27
  go_wp2_with fail
  refine H1.out.mono ?_
  rintro e w1 ⟨rfl, hB⟩
  have HB := Lib.hid hB
  clear hB
  go_wp2_with fail
  go_ret
  exact ⟨rfl, HB.out⟩

theorem ab_rep : repA ⟨#[97, 98]⟩ ⟨#[98]⟩ ⟨#[99]⟩ = ⟨#[97, 99]⟩ := by
  refine b_eq ?_
  unfold repA
  rw [if_neg (by decide), replB_list, ← replaceAll_at _ _ _ (by decide)]
  decide +kernel

set_option maxRecDepth 100000 in
set_option maxHeartbeats 2000000 in
theorem walk_FnStrReplaceAll (s old new : ByteArray) (w : World) (_hs : s.size ≤ maxLen) (_ho : old.size ≤ maxLen) (_hn : new.size ≤ maxLen) (hT : Tabs w) (hk : s.size + old.size + new.size ≤ 1048576) :
    Calls Tryd.prog 9 #[.string s, .string old, .string new] w fun e w' => e = .returned (.bool true) ∧ Below w.heap.size w w' := by
  have HT := Lib.hid hT
  clear hT
  have hs' : s.size < 2147483648 := by omega
  have ho' : old.size < 2147483648 := by omega
  have hn' : new.size < 2147483648 := by omega
  go_enter Tryd.func9, Tryd.ntmps9
  go_wp2_with fail
  refine (StrReplaceAll s old new _ hk HT.out).mono ?_
  rintro e w1 ⟨rfl, hB1⟩
  have HB1 := Lib.hid hB1
  clear hB1
  go_wp2_with fail
  refine (SeReplacedAll s old new _ hk).mono ?_
  rintro e w2 ⟨rfl, hB2⟩
  have HB2 := bl3 HB1 hB2
  clear hB2
  go_wp2_with fail
  refine (StrReplaceAll ⟨#[97, 98]⟩ ⟨#[98]⟩ ⟨#[99]⟩ _ (by decide) (HT.out.below HB2.out)).mono ?_
  rintro e w3 ⟨rfl, hB3⟩
  have HB3 := bl3 HB2 hB3
  clear hB3
  rw [ab_rep]
  go_wp2_with fail
  go_ret
  exact ⟨rfl, HB3.out⟩
end Go.Proofs.YtblaldahhhokmaaDoor

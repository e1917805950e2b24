/- SeBreaks: the places at which a text is parted. -/
import Derived.Test.YtpaieadnicmplaaDoorSplL
import Derived.Test.YtpaieadnicmplaaDoorSts
import Derived.Deep.LoopGhost
set_option linter.unusedVariables false
namespace Go.Proofs.YtpaieadnicmplaaDoor
open Go.RowKit Go.Lib

/-- How many places at most. -/
def lim (s : ByteArray) (most : Int) : Nat := if most < 0 then s.size + 1 else most.toNat

set_option maxRecDepth 100000 in
set_option maxHeartbeats 4000000 in
theorem SeBreaks_sep (s sep : ByteArray) (most : Int) (w : World) (hs : s.size < 2147483648) (hp : sep.size < 2147483648) (h1 : 1 ≤ sep.size) (hm63 : most ≤ 9223372036854775807) :
    Calls Tryd.prog 27 #[.string s, .string sep, .int .i64 most] w fun e W' => ∃ v, e = .returned v ∧ IntsAt W' v (brk s sep 0 (lim s most)) ∧ Below w.heap.size w W' := by
  obtain ⟨i0, hi, hz0, hz1, hz2⟩ := info_parts int_info
  have hlen0 := brk_len s sep h1 (s.size + 1) 0 (lim s most) (by omega)
  obtain ⟨M, hM⟩ : ∃ M, M = lim s most := ⟨_, rfl⟩
  rw [← hM] at hlen0 ⊢
  have hM1 : most < 0 → M = s.size + 1 := fun h => by rw [hM, lim, if_pos h]
  have hM2 : ¬ most < 0 → (M : Int) = most := fun h => by rw [hM, lim, if_neg h]; omega
  have HM1 := Lib.hid hM1
  have HM2 := Lib.hid hM2
  clear hM hM1 hM2
  have hemp : sep.toList.isEmpty = false := by
    rw [Go.ByteArray.toList_eq]
    cases hc : sep.data.toList with
    | nil => have := Lib.size_eq sep; rw [hc, List.length_nil] at this; omega
    | cons _ _ => rfl
  go_enter Tryd.func27, Tryd.ntmps27
  go_wp2
  go_loopg [7, 10] (s.size + 1) (fun g v iv W => ∃ (i : Nat) (dn : List Nat), s.size + 1 ≤ i + g ∧ i ≤ s.size ∧ dn.length ≤ i ∧ dn.length ≤ M ∧ iv = .int .i64 i ∧ Hid (dn ++ brk s sep i (M - dn.length) = brk s sep 0 M) ∧ Hid (W.ownsRow w.heap.size 3 1 v dn.length (ints dn)) ∧ Hid (Below w.heap.size w W) ∧ ∃ a c, v = .slice a dn.length c)
  case atStart => exact ⟨0, [], by omega, by omega, Nat.le_refl _, Nat.zero_le _, rfl, rfl, World.ownsRow_nil _ _ _ _, Below.refl _ _, none, 0, rfl⟩
  case round =>
    obtain ⟨i, dn, hg, his, hdi, hdM, rfl, HD, HR, HB, a', c', rfl⟩ := hrel
    have hBs := HB.out.size
    by_cases hgo : i + sep.size ≤ s.size ∧ dn.length < M
    · obtain ⟨hroom, hdlt⟩ := hgo
      have hroomZ : (i : Int) + sep.size ≤ s.size := by omega
      have hor : most < 0 ∨ ((dn.length : Int) < most ∧ ¬ most < 0) := by
        by_cases h : most < 0
        · exact .inl h
        · have := HM2.out (by omega); exact .inr ⟨by omega, h⟩
      have hmx : dn.length + 1 ≤ maxLen := by unfold maxLen; omega
      cases hat : atB s sep i with
      | true =>
        have HN : Hid ((dn ++ [i]) ++ brk s sep (i + sep.size) (M - (dn.length + 1)) = brk s sep 0 M) := by
          have := HD.out
          rw [show M - dn.length = M - (dn.length + 1) + 1 by omega, brk_hit s sep i _ h1 hroom hat] at this
          rw [List.append_assoc]; exact this
        rcases hor with hor | ⟨hor, hor2⟩
        all_goals
          go_wp2_with (first
            | (at_builtin; refine wpList_append_own _ rfl _ _ 40 rfl w.heap.size 3 i0 (.int .i64 0) 1 8 Tryd.underlying40 hi hz0 hz1 hz2 rfl (by decide) _ _ _ rfl (HR.out.alloc _) ⟨wr.heap.size, 0, none⟩ 1 1 [.int .i64 (i : Int)] rfl rfl (cell_one_new _ _ _) (by simp [Value.oneCell']) hmx (by omega) (by simp; omega) ?_; intro v' w1 hown' hgrow _; have hB1 : Below w.heap.size w w1 := (HB.out.alloc hBs _).grown hgrow (by simp; omega) (fun j ej => (HR.out.lt j ej).1); obtain ⟨g', cap', rfl⟩ := ownsRow_succ hown'; have HO := Lib.hid hown'; have HB1 := Lib.hid hB1; clear hown' hgrow hB1)
            | (go_at_call 45; refine (SeAt s sep _ _ (by omega) (by omega) (by omega) (by omega)).mono ?_; rintro e w' ⟨rfl, rfl⟩; rw [hat]))
          go_roundg (s.size - i)
          case measure => omega
          case rel => exact ⟨i + sep.size, dn ++ [i], by omega, by omega, by simp; omega, by simp; omega, by go_num, Lib.hid (by simpa using HN.out), Lib.hid (by have := HO.out; simpa [ints] using this), HB1, some ⟨g', 0, none⟩, cap', by simp⟩
      | false =>
        have HN : Hid (dn ++ brk s sep (i + 1) (M - dn.length) = brk s sep 0 M) := by
          have := HD.out
          rw [brk_step s sep i _ hroom hat] at this
          exact this
        rcases hor with hor | ⟨hor, hor2⟩
        all_goals
          go_wp2_with (go_at_call 45; refine (SeAt s sep _ _ (by omega) (by omega) (by omega) (by omega)).mono ?_; rintro e w' ⟨rfl, rfl⟩; rw [hat])
          go_roundg (s.size - i)
          case measure => omega
          case rel => exact ⟨i + 1, dn, by omega, by omega, by omega, by omega, by go_num, HN, HR, HB, _, _, rfl⟩
    · have hend := brk_end s sep i (M - dn.length) (by omega)
      have HT : Hid (IntsAt wr (.slice a' dn.length c') (brk s sep 0 M)) := by
        have := HD.out
        rw [hend, List.append_nil] at this
        rw [← this]
        exact IntsAt.of_own HR.out
      by_cases hroom : i + sep.size ≤ s.size
      · have hdge : M ≤ dn.length := by omega
        have hnn : ¬ most < 0 := fun h => by have := HM1.out h; omega
        have := HM2.out (by omega)
        have hx : ¬ ((dn.length : Int) < most) := by omega
        have hroomZ : (i : Int) + sep.size ≤ s.size := by omega
        have hnd : decide (most < 0) = false := decide_eq_false hnn
        clear this
        go_wp2
        go_ret
        exact ⟨_, rfl, HT.out, HB.out⟩
      · have hroomZ : decide ((i : Int) + sep.size ≤ s.size) = false := decide_eq_false (by omega)
        go_wp2
        go_ret
        exact ⟨_, rfl, HT.out, HB.out⟩
end Go.Proofs.YtpaieadnicmplaaDoor

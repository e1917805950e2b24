/- SeLines: the reference. -/
import Derived.Test.YtggjdibahpnclaaLinS
import Derived.WalkSpells
import Derived.WalkLawsBesides
namespace Go.Proofs.Ytggjdibahpnclaa
open Go.RowKit Go.Lib

theorem drop_noB {s : ByteArray} {a k : Nat} (h : ∀ j, a ≤ j → j < k → s.data.toList[j]? ≠ some 10) (hak : a ≤ k) : NoB (s.data.toList.drop a) 10 (k - a) := by
  intro j hj
  rw [List.getElem?_drop]
  exact h (a + j) (by omega) (by omega)

set_option maxRecDepth 100000 in
set_option maxHeartbeats 4000000 in
theorem SeLines (s : ByteArray) (w : World) (hs : s.size < 4294967281) :
    Calls Try.prog 24 #[.string s] w fun e W' => ∃ v, e = .returned v ∧ W'.ownsRow w.heap.size 9 1 v (linesAt s 0).length ((linesAt s 0).map Value.string) ∧ Below w.heap.size w W' := by
  have hlen : (linesAt s 0).length ≤ s.size := by have := linesFrom_len s (s.size + 1 - 0) 0; unfold linesAt; omega
  obtain ⟨i0, hi, hz0, hz1, hz2⟩ := info_parts str_info
  go_enter Try.func24, Try.ntmps24
  go_wp2
  go_loopw [3, 4, 5] (fun v av kv W => ∃ (a k : Nat) (dn : List ByteArray), av = .int .i64 a ∧ kv = .int .i64 k ∧ a ≤ k ∧ k ≤ s.size ∧ (∀ j, a ≤ j → j < k → s.data.toList[j]? ≠ some 10) ∧ dn ++ linesAt s a = linesAt s 0 ∧ W.ownsRow w.heap.size 9 1 v dn.length (dn.map Value.string) ∧ Below w.heap.size w W)
    (fun _ _ kv _ => s.size - (RowKit.intOf kv).toNat)
  case atStart => exact ⟨0, 0, [], rfl, rfl, Nat.le_refl _, Nat.zero_le _, fun j h1 h2 => absurd h2 (Nat.not_lt_zero _), rfl, World.ownsRow_nil _ _ _ _, Below.refl _ _⟩
  case round =>
    obtain ⟨a, k, dn, rfl, rfl, hak, hks, hno, hdn, hrow, hB⟩ := hrel
    have hdl : dn.length ≤ s.size := by have := congrArg List.length hdn; simp at this; omega
    by_cases hk : k < s.size
    · by_cases h10 : (s[k].toNat : Int) = 10
      · have hcons := linesAt_cons s a (k - a) (by omega) (ib_hit (drop_noB hno hak) (by rw [List.getElem?_drop, show a + (k - a) = k by omega]; exact at_eq s k hk 10 (by decide) (by decide) h10))
        rw [show a + (k - a) + 1 = k + 1 by omega] at hcons
        have hdl' : dn.length < s.size := by have := congrArg List.length hdn; rw [hcons] at this; simp at this; omega
        have hm : dn.length + 1 ≤ maxLen := by unfold maxLen; omega
        go_wp2_with (at_builtin; refine wpList_append_own _ rfl _ _ 34 rfl w.heap.size 9 i0 (.string ByteArray.empty) 1 16 Try.underlying34 hi hz0 hz1 hz2 rfl (by decide) _ _ _ rfl (hrow.alloc _) ⟨wr.heap.size, 0, none⟩ 1 1 [.string (s.extract a (k + 1))] rfl rfl (cell_one_new _ _ _) (by simp [Value.oneCell']) hm (by omega) (by have := hB.size; simp; omega) ?_; intro v' w1 hown' hgrow _; have hB1 : Below w.heap.size w w1 := (hB.alloc hB.size _).grown hgrow (by have := hB.size; simp; omega) (fun j ej => (hrow.lt j ej).1); obtain ⟨g', cap', rfl⟩ := ownsRow_succ hown')
        go_roundw
        case rel => exact ⟨k + 1, k + 1, dn ++ [s.extract a (k + 1)], rfl, rfl, Nat.le_refl _, hk, fun j h1 h2 => by omega, by rw [List.append_assoc, ← hdn, hcons]; rfl, by simpa using hown', hB1⟩
        case measure => simp [RowKit.intOf]; omega
      · go_wp2
        go_roundw
        case rel => exact ⟨a, k + 1, dn, rfl, rfl, by omega, hk, fun j h1 h2 => by
          rcases Nat.lt_succ_iff_lt_or_eq.1 h2 with h | h
          · exact hno j h1 h
          · subst h; exact at_ne s j hk 10 (by decide) (by decide) h10, hdn, hrow, hB⟩
        case measure => simp [RowKit.intOf]; omega
    · obtain rfl : k = s.size := by omega
      by_cases ha : a < s.size
      · have hl := linesAt_last s a ha (ib_miss (by have := drop_noB hno hak; simpa using this))
        rw [hl] at hdn
        have hm : dn.length + 1 ≤ maxLen := by unfold maxLen; omega
        go_wp2_with (at_builtin; refine wpList_append_own _ rfl _ _ 34 rfl w.heap.size 9 i0 (.string ByteArray.empty) 1 16 Try.underlying34 hi hz0 hz1 hz2 rfl (by decide) _ _ _ rfl (hrow.alloc _) ⟨wr.heap.size, 0, none⟩ 1 1 [.string (s.extract a s.size)] rfl rfl (cell_one_new _ _ _) (by simp [Value.oneCell']) hm (by omega) (by have := hB.size; simp; omega) ?_; intro v' w1 hown' hgrow _; have hB1 : Below w.heap.size w w1 := (hB.alloc hB.size _).grown hgrow (by have := hB.size; simp; omega) (fun j ej => (hrow.lt j ej).1); obtain ⟨g', cap', rfl⟩ := ownsRow_succ hown')
        go_ret
        refine ⟨_, rfl, ?_, hB1⟩
        rw [← hdn]
        simpa using hown'
      · rw [linesAt_end s a (by omega), List.append_nil] at hdn
        go_wp2
        go_ret
        exact ⟨_, rfl, hdn ▸ hrow, hB⟩
end Go.Proofs.Ytggjdibahpnclaa

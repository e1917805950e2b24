/- FnStrLines: the walk. -/
import Derived.Test.YtggjdibahpnclaaLinR
namespace Go.Proofs.Ytggjdibahpnclaa
open Go.RowKit Go.Lib

theorem lines_ab : (linesAt ⟨#[97, 10, 98]⟩ 0).length = 2 := by decide +kernel

set_option maxRecDepth 100000 in
set_option maxHeartbeats 4000000 in
theorem walk_FnStrLines (s : ByteArray) (w : World) (_hs : s.size ≤ maxLen) :
    Calls Try.prog 7 #[.string s] w fun e w' => e = .returned (.bool true) ∧ Below w.heap.size w w' := by
  go_enter Try.func7, Try.ntmps7
  by_cases hbig : 2147483647 < s.size
  · go_wp2
    go_ret
    exact ⟨rfl, Below.refl _ _⟩
  · have hs' : s.size < 4294967281 := by omega
    have hlen : (linesAt s 0).length < 4294967281 := by have := linesFrom_len s (s.size + 1 - 0) 0; unfold linesAt; omega
    go_wp2_with fail
    refine (StrLines s _ hs').mono ?_
    rintro e w1 ⟨v1, rfl, h1, hB1⟩
    have hA := StrsAt.of_own h1
    go_wp2_with fail
    refine (SeLines s _ hs').mono ?_
    rintro e w2 ⟨v2, rfl, h2, hB2⟩
    go_wp2_with fail
    refine (SeSame (linesAt s 0) _ _ _ (hA.below hB2) (StrsAt.of_own h2) hlen).mono ?_
    rintro e w3 ⟨rfl, rfl⟩
    go_wp2_with fail
    obtain ⟨ab, hab⟩ : ∃ ab : ByteArray, ab = ⟨#[97, 10, 98]⟩ := ⟨_, rfl⟩
    rw [← hab]
    refine (StrLines ab _ (by rw [hab]; decide)).mono ?_
    rintro e w4 ⟨v4, rfl, h4, hB4⟩
    rw [hab, lines_ab] at h4
    obtain ⟨A, cp, rfl⟩ := ownsRow_succ h4
    go_wp2_with fail
    go_ret
    exact ⟨rfl, ((hB1.trans (hB2.mono hB1.size)).trans (hB4.mono (hB1.trans (hB2.mono hB1.size)).size))⟩
end Go.Proofs.Ytggjdibahpnclaa

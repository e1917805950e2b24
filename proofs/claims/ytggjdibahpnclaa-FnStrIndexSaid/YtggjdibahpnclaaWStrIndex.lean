/- The walk of FnStrIndex. -/
import Derived.Test.YtggjdibahpnclaaSIx
namespace Go.Proofs.Ytggjdibahpnclaa
open Go.RowKit Go.Lib

set_option maxHeartbeats 1000000 in
theorem walk_FnStrIndex (s sep : ByteArray) (w : World) (hs : s.size ≤ maxLen) (hp : sep.size ≤ maxLen) :
    Calls Try.prog 11 #[.string s, .string sep] w fun e w' => e = .returned (.bool true) ∧ Below w.heap.size w w' := by
  unfold maxLen at hs hp
  by_cases hbig : 2147483647 < s.size
  · go_enter Try.func11, Try.ntmps11
    go_wp2
    go_ret
    exact ⟨rfl, Below.refl _ _⟩
  · by_cases hbig2 : 2147483647 < sep.size
    · go_enter Try.func11, Try.ntmps11
      go_wp2
      go_ret
      exact ⟨rfl, Below.refl _ _⟩
    · go_enter Try.func11, Try.ntmps11
      go_wp2_with fail
      refine (StrIndex s sep _ (by omega)).mono ?_
      rintro e w' ⟨rfl, rfl⟩
      obtain ⟨r, hr⟩ : ∃ r, r = Lib.index s.data.toList sep.data.toList := ⟨_, rfl⟩
      have HR := Lib.hid hr
      rw [← hr]
      clear hr
      go_wp2_with fail
      refine (SeFirst s sep _ (by omega) (by omega)).mono ?_
      rintro e w' ⟨rfl, rfl⟩
      rw [← HR.out]
      go_wp2_with fail
      refine (StrIndex ⟨#[97, 98]⟩ ⟨#[98]⟩ _ (by decide)).mono ?_
      rintro e w' ⟨rfl, rfl⟩
      have e1 : Lib.index (ByteArray.mk #[97, 98]).data.toList (ByteArray.mk #[98]).data.toList = 1 := by decide
      rw [e1]
      go_wp2_with fail
      go_ret
      exact ⟨rfl, Below.refl _ _⟩
end Go.Proofs.Ytggjdibahpnclaa

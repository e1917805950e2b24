/- The walk of FnBytIndex. -/
import Derived.Test.YtiggomaoijamhaaBIdx2
namespace Go.Proofs.Ytiggomaoijamhaa
open Go.RowKit Go.Lib

set_option maxHeartbeats 2000000 in
theorem walk_FnBytIndex (a b : ByteArray) (w : World) (ha : a.size ≤ maxLen) (hb : b.size ≤ maxLen) :
    Calls Try.prog 3 #[.string a, .string b] w fun e w' => e = .returned (.bool true) ∧ Below w.heap.size w w' := by
  unfold maxLen at ha hb
  by_cases hbig : 2147483647 < a.size
  · go_enter Try.func3, Try.ntmps3
    go_wp2
    go_ret
    exact ⟨rfl, Below.refl _ _⟩
  · by_cases hbig2 : 2147483647 < b.size
    · go_enter Try.func3, Try.ntmps3
      go_wp2
      go_ret
      exact ⟨rfl, Below.refl _ _⟩
    · obtain ⟨c1, W1, k1, C1⟩ := cvB w a
      obtain ⟨c2, W2, k2, C2⟩ := cvB W1 b
      have s1 := C1.size
      have HA := Lib.hid (bytes_below C1.bytes C2.below (by omega))
      have HB := Lib.hid C2.bytes
      have z2 := C2.size
      have bel := Lib.hid (C1.below.trans (C2.below.mono C1.below.size))
      have lt2 : w.heap.size + 1 < W2.heap.size := by omega
      rw [s1] at k2 HB
      clear C1 C2 s1 z2
      obtain ⟨r, hr⟩ : ∃ r, r = Lib.index a.data.toList b.data.toList := ⟨_, rfl⟩
      have HR := Lib.hid hr
      clear hr
      go_enter Try.func3, Try.ntmps3
      go_wp2_with fail
      refine (BytIndex a b _ _ _ _ _ _ _ (by omega) (by omega) HA HB (by omega)).mono ?_
      rintro e w3 ⟨rfl, bel3⟩
      rw [← HR.out]
      go_wp2_with fail
      refine (SeFirst a b _ (by omega) (by omega)).mono ?_
      rintro e w' ⟨rfl, rfl⟩
      rw [← HR.out]
      have q1 := cvC w3 #[.int .u8 97, .int .u8 98] 2 2 _ rfl
      have q2 := fun fr => cvC (w3.alloc (.cells #[.int .u8 97, .int .u8 98] 5 fr)) #[.int .u8 98] 1 1 (w3.heap.size + 1) (by simp)
      go_wp2_with fail
      obtain ⟨W4, hW4, H1, H2, l4, bel4'⟩ := two_consts w3 ⟨#[97, 98]⟩ ⟨#[98]⟩ #[.int .u8 97, .int .u8 98] #[.int .u8 98] (2, 3) (1, 2) rfl rfl
      rw [← hW4]
      clear hW4 q1 q2
      refine (BytIndexN ⟨#[97, 98]⟩ ⟨#[98]⟩ w3.heap.size 0 2 (w3.heap.size + 1) 0 1 2 1 W4 rfl rfl (by omega) (by omega) H1 H2 l4).mono ?_
      rintro e w4 ⟨rfl, bel4⟩
      rw [show Lib.index (ByteArray.mk #[97, 98]).data.toList (ByteArray.mk #[98]).data.toList = 1 by decide]
      go_wp2_with fail
      go_ret
      exact ⟨rfl, bel.out.trans ((bel3.mono bel.out.size).trans ((bel4'.mono (Nat.le_trans bel.out.size bel3.size)).trans (bel4.mono (Nat.le_trans bel.out.size (Nat.le_trans bel3.size bel4'.size)))))⟩
end Go.Proofs.Ytiggomaoijamhaa

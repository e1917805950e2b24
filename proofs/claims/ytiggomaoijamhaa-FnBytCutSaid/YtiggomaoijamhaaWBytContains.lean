/- The walk of FnBytContains. -/
import Derived.Test.YtiggomaoijamhaaBEnds
namespace Go.Proofs.Ytiggomaoijamhaa
open Go.RowKit Go.Lib

/-- Two strings turned into bytes, one behind the other. -/
theorem cvBB (w : World) (a b : ByteArray) : ∃ c1 W1 c2 W2, (convert 9 23 (.string a)).run Try.prog w = .ok (.slice (some ⟨w.heap.size, 0, none⟩) a.size c1) W1
    ∧ (convert 9 23 (.string b)).run Try.prog W1 = .ok (.slice (some ⟨w.heap.size + 1, 0, none⟩) b.size c2) W2
    ∧ Hid (Lib.Bytes W2 w.heap.size 0 a) ∧ Hid (Lib.Bytes W2 (w.heap.size + 1) 0 b) ∧ w.heap.size + 1 < W2.heap.size ∧ Hid (Below w.heap.size w W2) := by
  obtain ⟨c1, W1, k1, C1⟩ := cvB w a
  obtain ⟨c2, W2, k2, C2⟩ := cvB W1 b
  have s1 := C1.size
  have HA := Lib.hid (bytes_below C1.bytes C2.below (by omega))
  have HB := Lib.hid C2.bytes
  have z2 := C2.size
  have bel := Lib.hid (C1.below.trans (C2.below.mono C1.below.size))
  rw [s1] at k2 HB
  exact ⟨c1, W1, c2, W2, k1, k2, HA, HB, by omega, bel⟩

set_option maxHeartbeats 4000000 in
theorem walk_FnBytContains (a b : ByteArray) (w : World) (ha : a.size ≤ maxLen) (hb : b.size ≤ maxLen) :
    Calls Try.prog 4 #[.string a, .string b] w fun e w' => e = .returned (.bool true) ∧ Below w.heap.size w w' := by
  unfold maxLen at ha hb
  by_cases hbig : 2147483647 < a.size
  · go_enter Try.func4, Try.ntmps4
    go_wp2
    go_ret
    exact ⟨rfl, Below.refl _ _⟩
  · by_cases hbig2 : 2147483647 < b.size
    · go_enter Try.func4, Try.ntmps4
      go_wp2
      go_ret
      exact ⟨rfl, Below.refl _ _⟩
    · obtain ⟨c1, W1, c2, W2, k1, k2, HA, HB, lt2, bel⟩ := cvBB w a b
      obtain ⟨r, hr⟩ : ∃ r, r = Lib.index a.data.toList b.data.toList := ⟨_, rfl⟩
      have hrg : hasB a b = decide (0 ≤ r) := by
        have := Lib.index_ge a.data.toList b.data.toList
        unfold hasB
        rw [← hr] at this ⊢
        by_cases h : r = -1
        · rw [decide_eq_true h, decide_eq_false (by omega)]; rfl
        · rw [decide_eq_false h, decide_eq_true (by omega)]; rfl
      have HG := Lib.hid hrg
      have HR := Lib.hid hr
      obtain ⟨p, hp⟩ : ∃ p, p = headB a b := ⟨_, rfl⟩
      obtain ⟨q, hq⟩ : ∃ q, q = tailB a b := ⟨_, rfl⟩
      have HP := Lib.hid hp
      have HP' : Hid (p = atB a b 0) := hp
      have HQ := Lib.hid hq
      have HQ' : Hid (q = atB a b ((a.size : Int) - b.size)) := hq
      clear hr hrg hp hq
      go_enter Try.func4, Try.ntmps4
      go_wp2_with fail
      refine (BytContains a b _ _ _ _ _ _ _ (by omega) (by omega) HA HB (by omega)).mono ?_
      rintro e w3 ⟨rfl, bel3⟩
      rw [HG.out]
      go_wp2_with fail
      refine (SeFirst a b _ (by omega) (by omega)).mono ?_
      rintro e w' ⟨rfl, rfl⟩
      rw [← HR.out]
      have B3 := Lib.hid (bel.out.trans (bel3.mono bel.out.size))
      clear bel bel3 k1 k2 HA HB lt2
      obtain ⟨c1, W1, c2, W2, k1, k2, HA, HB, lt2, bel⟩ := cvBB w3 a b
      go_wp2_with fail
      refine (BytHasPrefix a b _ _ _ _ _ _ _ (by omega) (by omega) HA HB (by omega)).mono ?_
      rintro e w4 ⟨rfl, bel4⟩
      rw [← HP.out]
      go_wp2_with fail
      refine (SeAt a b 0 _ (by omega) (by omega) (by omega) (by omega)).mono ?_
      rintro e w' ⟨rfl, rfl⟩
      rw [← HP'.out]
      have B4 := Lib.hid (B3.out.trans ((bel.out.trans (bel4.mono bel.out.size)).mono B3.out.size))
      clear bel bel4 k1 k2 HA HB lt2
      obtain ⟨c1, W1, c2, W2, k1, k2, HA, HB, lt2, bel⟩ := cvBB w4 a b
      go_wp2_with fail
      refine (BytHasSuffix a b _ _ _ _ _ _ _ (by omega) (by omega) HA HB (by omega)).mono ?_
      rintro e w5 ⟨rfl, bel5⟩
      rw [← HQ.out]
      go_wp2_with fail
      refine (SeAt a b ((a.size : Int) - b.size) _ (by omega) (by omega) (by omega) (by omega)).mono ?_
      rintro e w' ⟨rfl, rfl⟩
      rw [← HQ'.out]
      have B5 := Lib.hid (B4.out.trans ((bel.out.trans (bel5.mono bel.out.size)).mono B4.out.size))
      clear bel bel5 k1 k2 HA HB lt2
      have q1 := cvC w5 #[.int .u8 97, .int .u8 98] 2 2 _ rfl
      have q2 := fun fr => cvC (w5.alloc (.cells #[.int .u8 97, .int .u8 98] 5 fr)) #[.int .u8 98] 1 1 (w5.heap.size + 1) (by simp)
      go_wp2_with fail
      obtain ⟨W4, hW4, H1, H2, l4, bel4'⟩ := two_consts w5 ⟨#[97, 98]⟩ ⟨#[98]⟩ #[.int .u8 97, .int .u8 98] #[.int .u8 98] (2, 3) (1, 2) rfl rfl
      rw [← hW4]
      clear hW4 q1 q2
      refine (BytContainsN ⟨#[97, 98]⟩ ⟨#[98]⟩ w5.heap.size 0 2 (w5.heap.size + 1) 0 1 2 1 W4 rfl rfl (by omega) (by omega) H1 H2 l4).mono ?_
      rintro e w6 ⟨rfl, bel6⟩
      rw [show hasB (ByteArray.mk #[97, 98]) (ByteArray.mk #[98]) = true by decide]
      go_wp2_with fail
      go_ret
      exact ⟨rfl, B5.out.trans ((bel4'.mono B5.out.size).trans (bel6.mono (Nat.le_trans B5.out.size bel4'.size)))⟩
end Go.Proofs.Ytiggomaoijamhaa

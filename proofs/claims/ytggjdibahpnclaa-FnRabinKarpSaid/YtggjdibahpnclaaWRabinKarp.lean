/- The walk of FnRabinKarp. -/
import Derived.Test.YtggjdibahpnclaaRk
import Derived.Test.YtggjdibahpnclaaRkB
namespace Go.Proofs.Ytggjdibahpnclaa
open Go.RowKit Go.Lib

theorem below_drewN' (w : World) (n : Nat) : Below w.heap.size w (w.drewN n) := ⟨rfl, rfl, rfl, Nat.le_refl _, fun _ _ => rfl⟩

set_option maxHeartbeats 1000000 in
theorem RabinKarp (s sep : ByteArray) (w : World) (h1 : 1 ≤ sep.size) (h2 : sep.size ≤ s.size) (hs : s.size < 4294967281) :
    Calls Try.prog 28 #[.string s, .string sep] w fun e w' => e = .returned (.int .i64 (Lib.index s.data.toList sep.data.toList)) ∧ w = w' := by
  go_enter Try.func28, Try.ntmps28
  go_wp2_with fail
  refine (IndexRabinKarp s sep h1 h2 hs _).mono ?_
  rintro e w' ⟨rfl, rfl⟩
  go_wp2
  go_ret
  exact ⟨rfl, rfl⟩

set_option maxHeartbeats 1000000 in
theorem RabinKarpBytes (s t : ByteArray) (b o c b' o' c' : Nat) (w : World) (h1 : 1 ≤ t.size) (h2 : t.size ≤ s.size) (zs : s.size < 4294967281) (hs : Hid (Lib.Bytes w b o s)) (ht : Hid (Lib.Bytes w b' o' t)) (hb' : b' < w.heap.size) :
    Calls Try.prog 29 #[.slice (some ⟨b, o, none⟩) s.size c, .slice (some ⟨b', o', none⟩) t.size c'] w fun e w' => e = .returned (.int .i64 (Lib.index s.data.toList t.data.toList)) ∧ Below w.heap.size w w' := by
  go_enter Try.func29, Try.ntmps29
  go_wp2_with fail
  refine (CloneB s b o c _ zs hs).mono ?_
  rintro e w1 ⟨g1, c1, rfl, hg1, hl1, hc1, hB1, bel1⟩
  have HB1 := Lib.hid hB1
  clear hB1
  go_wp2_with fail
  have HT1 := Lib.hid (bytes_below ht.out bel1 hb')
  refine (CloneB t b' o' c' _ (by omega) HT1).mono ?_
  rintro e w2 ⟨g2, c2, rfl, hg2, hl2, hc2, hB2, bel2⟩
  have HB2 := Lib.hid hB2
  have HB1' := Lib.hid (bytes_below HB1.out bel2 hl1)
  clear hB2
  go_wp2_with fail
  refine (IndexRabinKarpB g1 0 c1 g2 0 c2 s t h1 h2 zs _ HB1'.out HB2.out hc1).mono ?_
  rintro e w3 ⟨rfl, q, rfl⟩
  go_wp2
  go_ret
  exact ⟨rfl, (bel1.trans (bel2.mono bel1.size)).trans ((below_drewN' w2 q).mono (Nat.le_trans bel1.size bel2.size))⟩

set_option maxHeartbeats 2000000 in
theorem walk_FnRabinKarp (s sep : ByteArray) (w : World) (hs : s.size ≤ maxLen) (hp : sep.size ≤ maxLen) :
    Calls Try.prog 9 #[.string s, .string sep] w fun e w' => e = .returned (.bool true) ∧ Below w.heap.size w w' := by
  unfold maxLen at hs hp
  by_cases hbig : 2147483647 < s.size
  · go_enter Try.func9, Try.ntmps9
    go_wp2
    go_ret
    exact ⟨rfl, Below.refl _ _⟩
  · by_cases hbig2 : 2147483647 < sep.size
    · go_enter Try.func9, Try.ntmps9
      go_wp2
      go_ret
      exact ⟨rfl, Below.refl _ _⟩
    · by_cases h0 : sep.size = 0
      · have e0 : sep = ByteArray.empty := by
          apply ByteArray.ext; apply Array.eq_empty_of_size_eq_zero; exact h0
        subst e0
        clear h0
        go_enter Try.func9, Try.ntmps9
        go_wp2
        go_ret
        exact ⟨rfl, Below.refl _ _⟩
      · have hne : sep.toList.isEmpty = false := by
          rw [Lib.toList_data]
          cases hh : sep.data.toList with
          | nil => exfalso; apply h0; have := congrArg List.length hh; simpa using this
          | cons a l => rfl
        have hne2 : ¬ sep.toList = [] := by
          intro e; rw [e] at hne; cases hne
        have hne3 : ¬ sep = ByteArray.empty := fun e => h0 (by rw [e]; rfl)
        by_cases hl : s.size < sep.size
        · go_enter Try.func9, Try.ntmps9
          go_wp2
          go_ret
          exact ⟨rfl, Below.refl _ _⟩
        · obtain ⟨c1, W1, k1, C1⟩ := cvB w s
          obtain ⟨c2, W2, k2, C2⟩ := cvB W1 sep
          have s1 := C1.size
          have HA := Lib.hid (bytes_below C1.bytes C2.below (by omega))
          have HB := Lib.hid C2.bytes
          have z2 := C2.size
          have bel := Lib.hid (C1.below.trans (C2.below.mono C1.below.size))
          have lt2 : w.heap.size + 1 < W2.heap.size := by omega
          rw [s1] at k2 HB
          clear C1 C2 s1 z2
          obtain ⟨r, hr⟩ : ∃ r, r = Lib.index s.data.toList sep.data.toList := ⟨_, rfl⟩
          have HR := Lib.hid hr
          clear hr
          go_enter Try.func9, Try.ntmps9
          go_wp2_with fail
          refine (RabinKarp s sep _ (by omega) (by omega) (by omega)).mono ?_
          rintro e w' ⟨rfl, rfl⟩
          rw [← HR.out]
          go_wp2_with fail
          refine (SeFirst s sep _ (by omega) (by omega)).mono ?_
          rintro e w' ⟨rfl, rfl⟩
          rw [← HR.out]
          go_wp2_with fail
          refine (RabinKarpBytes s sep _ 0 _ _ 0 _ _ (by omega) (by omega) (by omega) HA HB (by omega)).mono ?_
          rintro e w3 ⟨rfl, bel3⟩
          rw [← HR.out]
          go_wp2_with fail
          refine (SeFirst s sep _ (by omega) (by omega)).mono ?_
          rintro e w' ⟨rfl, rfl⟩
          rw [← HR.out]
          go_wp2_with fail
          refine (RabinKarp ⟨#[97, 98]⟩ ⟨#[98]⟩ _ (by decide) (by decide) (by decide)).mono ?_
          rintro e w' ⟨rfl, rfl⟩
          rw [show Lib.index (ByteArray.mk #[97, 98]).data.toList (ByteArray.mk #[98]).data.toList = 1 by decide]
          go_wp2_with fail
          go_ret
          exact ⟨rfl, bel.out.trans (bel3.mono bel.out.size)⟩
end Go.Proofs.Ytggjdibahpnclaa

/- The walk of FnRoads. -/
import Derived.Test.YtiggomaoijamhaaBIdx2
import Derived.Test.YtiggomaoijamhaaSIx
import Derived.Test.YtiggomaoijamhaaLastS
namespace Go.Proofs.Ytiggomaoijamhaa
open Go.RowKit Go.Lib

set_option maxHeartbeats 1000000 in
theorem RabinKarpR (s sep : ByteArray) (w : World) (h1 : 1 ≤ sep.size) (h2 : sep.size ≤ s.size) (hs : s.size < 4294967281) :
    Calls Try.prog 14 #[.string s, .string sep] w fun e w' => e = .returned (.int .i64 (Lib.index s.data.toList sep.data.toList)) ∧ w = w' := by
  go_enter Try.func14, Try.ntmps14
  go_wp2_with fail
  refine (IndexRabinKarp s sep h1 h2 hs _).mono ?_
  rintro e w' ⟨rfl, rfl⟩
  go_wp2
  go_ret
  exact ⟨rfl, rfl⟩

set_option maxHeartbeats 1000000 in
theorem RabinKarpLastR (s sep : ByteArray) (w : World) (h1 : 1 ≤ sep.size) (h2 : sep.size ≤ s.size) (hs : s.size < 4294967281) :
    Calls Try.prog 16 #[.string s, .string sep] w fun e w' => e = .returned (.int .i64 (Lib.lastIndex s.data.toList sep.data.toList)) ∧ w = w' := by
  go_enter Try.func16, Try.ntmps16
  go_wp2_with fail
  refine (LastIndexRabinKarp s sep h1 h2 (by omega) _).mono ?_
  rintro e w' ⟨rfl, rfl⟩
  go_wp2
  go_ret
  exact ⟨rfl, rfl⟩

set_option maxHeartbeats 1000000 in
theorem StrLastIndexR (s sep : ByteArray) (w : World) (hs : s.size < 4294967281) :
    Calls Try.prog 15 #[.string s, .string sep] w fun e w' => e = .returned (.int .i64 (Lib.lastIndex s.data.toList sep.data.toList)) ∧ w = w' := by
  go_enter Try.func15, Try.ntmps15
  go_wp2_with fail
  refine (gLast s sep (by omega) _).mono ?_
  rintro e w' ⟨rfl, rfl⟩
  go_wp2
  go_ret
  exact ⟨rfl, rfl⟩

set_option maxHeartbeats 4000000 in
theorem walk_FnRoads (s sep : ByteArray) (w : World) (hs : s.size ≤ maxLen) (hp : sep.size ≤ maxLen) :
    Calls Try.prog 5 #[.string s, .string sep] w fun e w' => e = .returned (.bool true) ∧ Below w.heap.size w w' := by
  unfold maxLen at hs hp
  by_cases hbig : 2147483647 < s.size
  · go_enter Try.func5, Try.ntmps5
    go_wp2
    go_ret
    exact ⟨rfl, Below.refl _ _⟩
  · by_cases hbig2 : 2147483647 < sep.size
    · go_enter Try.func5, Try.ntmps5
      go_wp2
      go_ret
      exact ⟨rfl, Below.refl _ _⟩
    · by_cases h0 : sep.size = 0
      · have e0 : sep = ByteArray.empty := by
          apply ByteArray.ext; apply Array.eq_empty_of_size_eq_zero; exact h0
        subst e0
        clear h0
        go_enter Try.func5, Try.ntmps5
        go_wp2
        go_ret
        exact ⟨rfl, Below.refl _ _⟩
      · have hne : sep.toList.isEmpty = false := by
          rw [Lib.toList_data]
          cases hh : sep.data.toList with
          | nil => exfalso; apply h0; have := congrArg List.length hh; simpa using this
          | cons a l => rfl
        have hne2 : ¬ sep.toList = [] := by
          intro e; rw [e] at hne; cases hne
        have hne3 : ¬ sep = ByteArray.empty := fun e => h0 (by rw [e]; rfl)
        by_cases hl : s.size < sep.size
        · go_enter Try.func5, Try.ntmps5
          go_wp2
          go_ret
          exact ⟨rfl, Below.refl _ _⟩
        · obtain ⟨c1, W1, k1, C1⟩ := cvB w s
          obtain ⟨c2, W2, k2, C2⟩ := cvB W1 sep
          have s1 := C1.size
          have HA := Lib.hid (bytes_below C1.bytes C2.below (by omega))
          have HB := Lib.hid C2.bytes
          have z2 := C2.size
          have bel := Lib.hid (C1.below.trans (C2.below.mono C1.below.size))
          have lt2 : w.heap.size + 1 < W2.heap.size := by omega
          rw [s1] at k2 HB
          clear C1 C2 s1 z2
          obtain ⟨r, hr⟩ : ∃ r, r = Lib.index s.data.toList sep.data.toList := ⟨_, rfl⟩
          have HR := Lib.hid hr
          obtain ⟨l, hl'⟩ : ∃ l, l = Lib.lastIndex s.data.toList sep.data.toList := ⟨_, rfl⟩
          have HL := Lib.hid hl'
          clear hr hl'
          go_enter Try.func5, Try.ntmps5
          go_wp2_with fail
          refine (StrIndex s sep _ (by omega)).mono ?_
          rintro e w' ⟨rfl, rfl⟩
          rw [← HR.out]
          go_wp2_with fail
          refine (RabinKarpR s sep _ (by omega) (by omega) (by omega)).mono ?_
          rintro e w' ⟨rfl, rfl⟩
          rw [← HR.out]
          go_wp2_with fail
          refine (BytIndex s sep _ 0 _ _ 0 _ _ (by omega) (by omega) HA HB (by omega)).mono ?_
          rintro e w3 ⟨rfl, bel3⟩
          rw [← HR.out]
          go_wp2_with fail
          refine (RabinKarpR s sep _ (by omega) (by omega) (by omega)).mono ?_
          rintro e w' ⟨rfl, rfl⟩
          rw [← HR.out]
          go_wp2_with fail
          refine (StrLastIndexR s sep _ (by omega)).mono ?_
          rintro e w' ⟨rfl, rfl⟩
          rw [← HL.out]
          go_wp2_with fail
          refine (RabinKarpLastR s sep _ (by omega) (by omega) (by omega)).mono ?_
          rintro e w' ⟨rfl, rfl⟩
          rw [← HL.out]
          go_wp2_with fail
          refine (RabinKarpR ⟨#[97, 98]⟩ ⟨#[98]⟩ _ (by decide) (by decide) (by decide)).mono ?_
          rintro e w' ⟨rfl, rfl⟩
          rw [show Lib.index (ByteArray.mk #[97, 98]).data.toList (ByteArray.mk #[98]).data.toList = 1 by decide]
          go_wp2_with fail
          go_ret
          exact ⟨rfl, bel.out.trans (bel3.mono bel.out.size)⟩
end Go.Proofs.Ytiggomaoijamhaa

/- The walk of FnAlgEqual. -/
import Derived.Test.YtggjdibahpnclaaByt
namespace Go.Proofs.Ytggjdibahpnclaa
open Go.RowKit Go.Lib

set_option maxHeartbeats 1000000 in
theorem EqualB (s t : ByteArray) (b o c b' o' c' : Nat) (w : World) (hs : Hid (Lib.Bytes w b o s)) (ht : Hid (Lib.Bytes w b' o' t)) :
    Calls Try.prog 40 #[.slice (some ⟨b, o, none⟩) s.size c, .slice (some ⟨b', o', none⟩) t.size c'] w fun e w' => e = .returned (.bool (s.toList == t.toList)) ∧ w = w' := by
  have k1 := Lib.run_convert_whole (P := Try.prog) w 23 5 9 Try.underlying23 Try.underlying5 Try.underlying9 b o s hs.out c
  have k2 := Lib.run_convert_whole (P := Try.prog) w 23 5 9 Try.underlying23 Try.underlying5 Try.underlying9 b' o' t ht.out c'
  go_enter Try.func40, Try.ntmps40
  go_wp2
  go_ret
  exact ⟨rfl, rfl⟩

set_option maxHeartbeats 1000000 in
theorem AlgEqual (s t : ByteArray) (b o c b' o' c' : Nat) (w : World) (zs : s.size < 4294967281) (zt : t.size < 4294967281) (hs : Hid (Lib.Bytes w b o s)) (ht : Hid (Lib.Bytes w b' o' t)) (hb' : b' < w.heap.size) :
    Calls Try.prog 15 #[.slice (some ⟨b, o, none⟩) s.size c, .slice (some ⟨b', o', none⟩) t.size c'] w fun e w' => e = .returned (.bool (s.toList == t.toList)) ∧ Below w.heap.size w w' := by
  go_enter Try.func15, Try.ntmps15
  go_wp2_with fail
  refine (CloneB s b o c _ zs hs).mono ?_
  rintro e w1 ⟨g1, c1, rfl, hg1, hl1, hc1, hB1, bel1⟩
  have HB1 := Lib.hid hB1
  clear hB1
  go_wp2_with fail
  have HT1 := Lib.hid (bytes_below ht.out bel1 hb')
  refine (CloneB t b' o' c' _ zt HT1).mono ?_
  rintro e w2 ⟨g2, c2, rfl, hg2, hl2, hc2, hB2, bel2⟩
  have HB2 := Lib.hid hB2
  have HB1' := Lib.hid (bytes_below HB1.out bel2 hl1)
  clear hB2
  go_wp2_with fail
  refine (EqualB s t g1 0 c1 g2 0 c2 _ HB1' HB2).mono ?_
  rintro e w3 ⟨rfl, rfl⟩
  go_wp2
  go_ret
  exact ⟨rfl, bel1.trans (bel2.mono bel1.size)⟩

theorem AlgEqualN (s t : ByteArray) (b o c b' o' c' n m : Nat) (w : World) (hn : s.size = n) (hm : t.size = m) (zs : n < 4294967281) (zt : m < 4294967281) (hs : Hid (Lib.Bytes w b o s)) (ht : Hid (Lib.Bytes w b' o' t)) (hb' : b' < w.heap.size) :
    Calls Try.prog 15 #[.slice (some ⟨b, o, none⟩) n c, .slice (some ⟨b', o', none⟩) m c'] w fun e w' => e = .returned (.bool (s.toList == t.toList)) ∧ Below w.heap.size w w' := by
  subst hn; subst hm; exact AlgEqual s t b o c b' o' c' w zs zt hs ht hb'

set_option maxHeartbeats 2000000 in
theorem walk_FnAlgEqual (a b : ByteArray) (w : World) (ha : a.size ≤ maxLen) (hb : b.size ≤ maxLen) :
    Calls Try.prog 3 #[.string a, .string b] w fun e w' => e = .returned (.bool true) ∧ Below w.heap.size w w' := by
  unfold maxLen at ha hb
  by_cases hbig : 2147483647 < a.size
  · go_enter Try.func3, Try.ntmps3
    go_wp2
    go_ret
    exact ⟨rfl, Below.refl _ _⟩
  · by_cases hbig2 : 2147483647 < b.size
    · go_enter Try.func3, Try.ntmps3
      go_wp2
      go_ret
      exact ⟨rfl, Below.refl _ _⟩
    · obtain ⟨c1, W1, k1, C1⟩ := cvB w a
      obtain ⟨c2, W2, k2, C2⟩ := cvB W1 b
      have s1 := C1.size
      have HA := Lib.hid (bytes_below C1.bytes C2.below (by omega))
      have HB := Lib.hid C2.bytes
      have z2 := C2.size
      have bel := Lib.hid (C1.below.trans (C2.below.mono C1.below.size))
      have lt2 : w.heap.size + 1 < W2.heap.size := by omega
      rw [s1] at k2 HB
      clear C1 C2 s1 z2
      go_enter Try.func3, Try.ntmps3
      go_wp2_with fail
      refine (AlgEqual a b _ _ _ _ _ _ _ (by omega) (by omega) HA HB (by omega)).mono ?_
      rintro e w3 ⟨rfl, bel3⟩
      have q1 := cvC w3 #[.int .u8 97] 1 1 _ rfl
      have q2 := fun fr => cvC (w3.alloc (.cells #[.int .u8 97] 5 fr)) #[.int .u8 97] 1 1 (w3.heap.size + 1) (by simp)
      go_wp2_with fail
      obtain ⟨W4, hW4, H1, H2, l4, bel4'⟩ := two_consts w3 ⟨#[97]⟩ ⟨#[97]⟩ #[.int .u8 97] #[.int .u8 97] (1, 2) (1, 2) rfl rfl
      rw [← hW4]
      clear hW4 q1 q2
      refine (AlgEqualN ⟨#[97]⟩ ⟨#[97]⟩ w3.heap.size 0 1 (w3.heap.size + 1) 0 1 1 1 W4 rfl rfl (by omega) (by omega) H1 H2 l4).mono ?_
      rintro e w4 ⟨rfl, bel4⟩
      go_wp2_with fail
      go_ret
      exact ⟨rfl, bel.out.trans ((bel3.mono bel.out.size).trans ((bel4'.mono (Nat.le_trans bel.out.size bel3.size)).trans (bel4.mono (Nat.le_trans bel.out.size (Nat.le_trans bel3.size bel4'.size)))))⟩
end Go.Proofs.Ytggjdibahpnclaa

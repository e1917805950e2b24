/- FnBytContains: gobytes.Contains, HasPrefix, HasSuffix; the walk. -/
import Derived.Test.YtiggomaoijamhaaBIdx2
import Derived.Test.YtiggomaoijamhaaEnds
namespace Go.Proofs.Ytiggomaoijamhaa
open Go.RowKit Go.Lib

def hasB (s t : ByteArray) : Bool := !decide (Lib.index s.data.toList t.data.toList = -1)

theorem gbContains (b1 o1 c1 b2 o2 c2 : Nat) (s sub : ByteArray) (w : World) (hs : s.size < 4294967281)
    (hc1 : Hid (Lib.Bytes w b1 o1 s)) (hc2 : Hid (Lib.Bytes w b2 o2 sub)) (hcap : s.size ≤ c1) :
    Calls Try.prog 23 #[.slice (some ⟨b1, o1, none⟩) s.size c1, .slice (some ⟨b2, o2, none⟩) sub.size c2] w fun e w' => e = .returned (.bool (hasB s sub)) ∧ ∃ q, w' = w.drewN q := by
  obtain ⟨r, hr⟩ : ∃ r, r = Lib.index s.data.toList sub.data.toList := ⟨_, rfl⟩
  have H : Hid (hasB s sub = !decide (r = -1)) := by rw [hr]; exact rfl
  have HR := Lib.hid hr
  clear hr
  go_enter Try.func23, Try.ntmps23
  go_wp2_with fail
  refine (gbIndex b1 o1 c1 b2 o2 c2 s sub w hs hc1 hc2 hcap).mono ?_
  rintro e w' ⟨rfl, q, rfl⟩
  rw [← HR.out]
  go_wp2_with fail
  go_ret
  refine ⟨ret_bool ?_, q, rfl⟩
  rw [H.out]
  first | rfl | simp

theorem gbHasPrefix (b1 o1 c1 b2 o2 c2 : Nat) (s sub : ByteArray) (w : World) (_hs : s.size < 4294967281)
    (hc1 : Hid (Lib.Bytes w b1 o1 s)) (hc2 : Hid (Lib.Bytes w b2 o2 sub)) (hcap : s.size ≤ c1) :
    Calls Try.prog 24 #[.slice (some ⟨b1, o1, none⟩) s.size c1, .slice (some ⟨b2, o2, none⟩) sub.size c2] w fun e w' => e = .returned (.bool (headB s sub)) ∧ ∃ q, w' = w.drewN q := by
  by_cases hl : sub.size ≤ s.size
  · have H := Lib.hid (headB_in s sub hl)
    have hcv2 := convB w b2 o2 c2 sub hc2.out
    have hcv1 : ∀ cap, (convert 23 9 (.slice (some ⟨b1, o1, none⟩) sub.size cap)).run Try.prog w = .ok (.string (s.extract 0 sub.size)) w := fun cap => by
      have := Lib.run_convert_window (P := Try.prog) w _ _ _ Try.underlying23 Try.underlying5 Try.underlying9 b1 o1 s hc1.out 0 sub.size cap (by omega)
      simpa using this
    go_enter Try.func24, Try.ntmps24
    go_wp2_with fail
    refine (gbEqual_strs _ _ _ _ _ (hcv1 _) hcv2).mono ?_
    rintro e w' ⟨rfl, rfl⟩
    go_wp2_with fail
    go_ret
    exact ⟨ret_bool H.out.symm, 0, rfl⟩
  · have H := Lib.hid (headB_long s sub (by omega))
    go_enter Try.func24, Try.ntmps24
    go_wp2_with fail
    go_ret
    exact ⟨ret_bool H.out.symm, 0, rfl⟩

set_option maxHeartbeats 1000000 in
theorem gbHasSuffix (b1 o1 c1 b2 o2 c2 : Nat) (s sub : ByteArray) (w : World) (_hs : s.size < 4294967281)
    (hc1 : Hid (Lib.Bytes w b1 o1 s)) (hc2 : Hid (Lib.Bytes w b2 o2 sub)) (hcap : s.size ≤ c1) :
    Calls Try.prog 25 #[.slice (some ⟨b1, o1, none⟩) s.size c1, .slice (some ⟨b2, o2, none⟩) sub.size c2] w fun e w' => e = .returned (.bool (tailB s sub)) ∧ ∃ q, w' = w.drewN q := by
  by_cases hl : sub.size ≤ s.size
  · have H := Lib.hid (tailB_in s sub hl)
    have hcv2 := convB w b2 o2 c2 sub hc2.out
    have hcv1 : ∀ cap, (convert 23 9 (.slice (some ⟨b1, o1 + (s.size - sub.size), none⟩) sub.size cap)).run Try.prog w = .ok (.string (s.extract (s.size - sub.size) s.size)) w := fun cap => by
      have := Lib.run_convert_window (P := Try.prog) w _ _ _ Try.underlying23 Try.underlying5 Try.underlying9 b1 o1 s hc1.out (s.size - sub.size) sub.size cap (by omega)
      rw [show s.size - sub.size + sub.size = s.size by omega] at this
      exact this
    have hcv0 : Hid (sub.size = 0 → ∀ cap, (convert 23 9 (.slice (some ⟨b1, o1, none⟩) sub.size cap)).run Try.prog w = .ok (.string (s.extract (s.size - sub.size) s.size)) w) := fun h0 cap => by
      have := Lib.run_convert_window (P := Try.prog) w _ _ _ Try.underlying23 Try.underlying5 Try.underlying9 b1 o1 s hc1.out 0 sub.size cap (by omega)
      rw [show s.extract (s.size - sub.size) s.size = s.extract 0 (0 + sub.size) from by
        apply ByteArray.ext; apply Array.toList_inj.1
        rw [extract_data, extract_data, h0]
        simp]
      exact this
    go_enter Try.func25, Try.ntmps25
    go_wp2_with fail
    · rw [show s.size - (s.size - sub.size) = sub.size by omega]
      refine (gbEqual_strs _ _ _ _ _ (hcv0.out (by omega) _) hcv2).mono ?_
      rintro e w' ⟨rfl, rfl⟩
      go_wp2_with fail
      go_ret
      exact ⟨ret_bool H.out.symm, 0, rfl⟩
    · rw [show s.size - (s.size - sub.size) = sub.size by omega]
      refine (gbEqual_strs _ _ _ _ _ (hcv1 _) hcv2).mono ?_
      rintro e w' ⟨rfl, rfl⟩
      go_wp2_with fail
      go_ret
      exact ⟨ret_bool H.out.symm, 0, rfl⟩
  · have H := Lib.hid (tailB_long s sub (by omega))
    go_enter Try.func25, Try.ntmps25
    go_wp2_with fail
    go_ret
    exact ⟨ret_bool H.out.symm, 0, rfl⟩

set_option maxHeartbeats 1000000 in
theorem BytContains (s t : ByteArray) (b o c b' o' c' : Nat) (w : World) (zs : s.size < 4294967281) (zt : t.size < 4294967281) (hs : Hid (Lib.Bytes w b o s)) (ht : Hid (Lib.Bytes w b' o' t)) (hb' : b' < w.heap.size) :
    Calls Try.prog 9 #[.slice (some ⟨b, o, none⟩) s.size c, .slice (some ⟨b', o', none⟩) t.size c'] w fun e w' => e = .returned (.bool (hasB s t)) ∧ Below w.heap.size w w' := by
  go_enter Try.func9, Try.ntmps9
  go_wp2_with fail
  refine (CloneB s b o c _ zs hs).mono ?_
  rintro e w1 ⟨g1, c1, rfl, hg1, hl1, hc1, hB1, bel1⟩
  have HB1 := Lib.hid hB1
  clear hB1
  go_wp2_with fail
  have HT1 := Lib.hid (bytes_below ht.out bel1 hb')
  refine (CloneB t b' o' c' _ zt HT1).mono ?_
  rintro e w2 ⟨g2, c2, rfl, hg2, hl2, hc2, hB2, bel2⟩
  have HB2 := Lib.hid hB2
  have HB1' := Lib.hid (bytes_below HB1.out bel2 hl1)
  clear hB2
  go_wp2_with fail
  refine (gbContains g1 0 c1 g2 0 c2 s t _ zs HB1' HB2 hc1).mono ?_
  rintro e w3 ⟨rfl, q, rfl⟩
  go_wp2
  go_ret
  exact ⟨rfl, belowDrewN (bel1.trans (bel2.mono bel1.size)) q⟩

set_option maxHeartbeats 1000000 in
theorem BytHasPrefix (s t : ByteArray) (b o c b' o' c' : Nat) (w : World) (zs : s.size < 4294967281) (zt : t.size < 4294967281) (hs : Hid (Lib.Bytes w b o s)) (ht : Hid (Lib.Bytes w b' o' t)) (hb' : b' < w.heap.size) :
    Calls Try.prog 10 #[.slice (some ⟨b, o, none⟩) s.size c, .slice (some ⟨b', o', none⟩) t.size c'] w fun e w' => e = .returned (.bool (headB s t)) ∧ Below w.heap.size w w' := by
  go_enter Try.func10, Try.ntmps10
  go_wp2_with fail
  refine (CloneB s b o c _ zs hs).mono ?_
  rintro e w1 ⟨g1, c1, rfl, hg1, hl1, hc1, hB1, bel1⟩
  have HB1 := Lib.hid hB1
  clear hB1
  go_wp2_with fail
  have HT1 := Lib.hid (bytes_below ht.out bel1 hb')
  refine (CloneB t b' o' c' _ zt HT1).mono ?_
  rintro e w2 ⟨g2, c2, rfl, hg2, hl2, hc2, hB2, bel2⟩
  have HB2 := Lib.hid hB2
  have HB1' := Lib.hid (bytes_below HB1.out bel2 hl1)
  clear hB2
  go_wp2_with fail
  refine (gbHasPrefix g1 0 c1 g2 0 c2 s t _ zs HB1' HB2 hc1).mono ?_
  rintro e w3 ⟨rfl, q, rfl⟩
  go_wp2
  go_ret
  exact ⟨rfl, belowDrewN (bel1.trans (bel2.mono bel1.size)) q⟩

set_option maxHeartbeats 1000000 in
theorem BytHasSuffix (s t : ByteArray) (b o c b' o' c' : Nat) (w : World) (zs : s.size < 4294967281) (zt : t.size < 4294967281) (hs : Hid (Lib.Bytes w b o s)) (ht : Hid (Lib.Bytes w b' o' t)) (hb' : b' < w.heap.size) :
    Calls Try.prog 12 #[.slice (some ⟨b, o, none⟩) s.size c, .slice (some ⟨b', o', none⟩) t.size c'] w fun e w' => e = .returned (.bool (tailB s t)) ∧ Below w.heap.size w w' := by
  go_enter Try.func12, Try.ntmps12
  go_wp2_with fail
  refine (CloneB s b o c _ zs hs).mono ?_
  rintro e w1 ⟨g1, c1, rfl, hg1, hl1, hc1, hB1, bel1⟩
  have HB1 := Lib.hid hB1
  clear hB1
  go_wp2_with fail
  have HT1 := Lib.hid (bytes_below ht.out bel1 hb')
  refine (CloneB t b' o' c' _ zt HT1).mono ?_
  rintro e w2 ⟨g2, c2, rfl, hg2, hl2, hc2, hB2, bel2⟩
  have HB2 := Lib.hid hB2
  have HB1' := Lib.hid (bytes_below HB1.out bel2 hl1)
  clear hB2
  go_wp2_with fail
  refine (gbHasSuffix g1 0 c1 g2 0 c2 s t _ zs HB1' HB2 hc1).mono ?_
  rintro e w3 ⟨rfl, q, rfl⟩
  go_wp2
  go_ret
  exact ⟨rfl, belowDrewN (bel1.trans (bel2.mono bel1.size)) q⟩

theorem BytContainsN (s t : ByteArray) (b o c b' o' c' n m : Nat) (w : World) (hn : s.size = n) (hm : t.size = m) (zs : n < 4294967281) (zt : m < 4294967281) (hs : Hid (Lib.Bytes w b o s)) (ht : Hid (Lib.Bytes w b' o' t)) (hb' : b' < w.heap.size) :
    Calls Try.prog 9 #[.slice (some ⟨b, o, none⟩) n c, .slice (some ⟨b', o', none⟩) m c'] w fun e w' => e = .returned (.bool (hasB s t)) ∧ Below w.heap.size w w' := by
  subst hn hm
  exact BytContains s t b o c b' o' c' w zs zt hs ht hb'
end Go.Proofs.Ytiggomaoijamhaa

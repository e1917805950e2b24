/- impl.BytCut, impl.BytCutLast (printed by mkBytCut.py). -/
import Derived.Test.YtiggomaoijamhaaBCutL
namespace Go.Proofs.Ytiggomaoijamhaa
open Go.RowKit Go.Lib

set_option maxHeartbeats 2000000 in
theorem BytCut_no (s t : ByteArray) (b o c b' o' c' : Nat) (w : World) (zs : s.size < 4294967281) (zt : t.size < 4294967281) (hs : Hid (Lib.Bytes w b o s)) (ht : Hid (Lib.Bytes w b' o' t)) (hb : b < w.heap.size) (hb' : b' < w.heap.size) (h : index s.data.toList t.data.toList = -1) :
    Calls Try.prog 17 #[.slice (some ⟨b, o, none⟩) s.size c, .slice (some ⟨b', o', none⟩) t.size c'] w fun e w' => e = .returned (PartsOf s ByteArray.empty false) ∧ Below w.heap.size w w' := by
  have H := Lib.hid h
  clear h
  go_enter Try.func17, Try.ntmps17
  go_wp2_with fail
  have HS0 := Lib.hid (bytes_alloc hs.out hb (.cells #[.string ByteArray.empty, .string ByteArray.empty, .bool false] 29))
  refine (CloneB s b o c _ zs HS0).mono ?_
  rintro e w1 ⟨g1, c1, rfl, hg1, hl1, hc1, hB1, bel1⟩
  have HB1 := Lib.hid hB1
  clear hB1
  go_wp2_with fail
  have HT1 := Lib.hid (bytes_below (bytes_alloc ht.out hb' _) bel1 (by simp; omega))
  refine (CloneB t b' o' c' _ zt HT1).mono ?_
  rintro e w2 ⟨g2, c2, rfl, hg2, hl2, hc2, hB2, bel2⟩
  have HB2 := Lib.hid hB2
  have HB1' := Lib.hid (bytes_below HB1.out bel2 hl1)
  clear hB2
  go_wp2_with fail
  refine (gbCut_no g1 0 c1 g2 0 c2 s t _ zs HB1' HB2 hc1 H.out).mono ?_
  rintro e w3 ⟨rfl, q, rfl⟩
  have bel12 := bel1.trans (bel2.mono bel1.size)
  have hc := fun o => bel12.cell (p := ⟨w.heap.size, o, none⟩) (by simp)
  have hf := fun o => bel12.frozen (p := ⟨w.heap.size, o, none⟩) (by simp)
  have hz : w.heap.size < w2.heap.size := by have := bel12.size; simp at this; omega
  have v1 : ∀ n, (convert 23 9 (.slice (some ⟨g1, 0, none⟩) s.size c1)).run Try.prog (w2.drewN n) = .ok (.string s) (w2.drewN n) := fun n => convB _ _ _ _ _ (Lib.Bytes.drewN HB1'.out n)
  have v2 : ∀ W : World, (convert 23 9 (.slice none 0 0)).run Try.prog W = .ok (.string ByteArray.empty) W := fun W => by
    kernel_rfl
  go_wp2
  refine bodyPost_ret (v := PartsOf s ByteArray.empty false) (by simp [PartsOf, results, Try.results17, go_sem, hc]) rfl ⟨rfl, ?_⟩
  exact (((belowDrewN (((Below.refl _ w).alloc (Nat.le_refl _) _).trans (bel12.mono (by simp))) q).setCell (p := ⟨w.heap.size, 0, none⟩) (Nat.le_refl _) _).setCell (p := ⟨w.heap.size, 1, none⟩) (Nat.le_refl _) _).setCell (p := ⟨w.heap.size, 2, none⟩) (Nat.le_refl _) _

set_option maxHeartbeats 2000000 in
theorem BytCut_yes (s t : ByteArray) (k : Nat) (b o c b' o' c' : Nat) (w : World) (zs : s.size < 4294967281) (zt : t.size < 4294967281) (hs : Hid (Lib.Bytes w b o s)) (ht : Hid (Lib.Bytes w b' o' t)) (hb : b < w.heap.size) (hb' : b' < w.heap.size) (h : index s.data.toList t.data.toList = k) (hk : k + t.size ≤ s.size) :
    Calls Try.prog 17 #[.slice (some ⟨b, o, none⟩) s.size c, .slice (some ⟨b', o', none⟩) t.size c'] w fun e w' => e = .returned (PartsOf (s.extract 0 k) (s.extract (k + t.size) s.size) true) ∧ Below w.heap.size w w' := by
  have H := Lib.hid h
  clear h
  go_enter Try.func17, Try.ntmps17
  go_wp2_with fail
  have HS0 := Lib.hid (bytes_alloc hs.out hb (.cells #[.string ByteArray.empty, .string ByteArray.empty, .bool false] 29))
  refine (CloneB s b o c _ zs HS0).mono ?_
  rintro e w1 ⟨g1, c1, rfl, hg1, hl1, hc1, hB1, bel1⟩
  have HB1 := Lib.hid hB1
  clear hB1
  go_wp2_with fail
  have HT1 := Lib.hid (bytes_below (bytes_alloc ht.out hb' _) bel1 (by simp; omega))
  refine (CloneB t b' o' c' _ zt HT1).mono ?_
  rintro e w2 ⟨g2, c2, rfl, hg2, hl2, hc2, hB2, bel2⟩
  have HB2 := Lib.hid hB2
  have HB1' := Lib.hid (bytes_below HB1.out bel2 hl1)
  clear hB2
  go_wp2_with fail
  refine (gbCut_yes g1 0 c1 g2 0 c2 k s t _ zs HB1' HB2 hc1 H.out hk).mono ?_
  rintro e w3 ⟨A, cA, rfl, hA, q, rfl⟩
  have bel12 := bel1.trans (bel2.mono bel1.size)
  have hc := fun o => bel12.cell (p := ⟨w.heap.size, o, none⟩) (by simp)
  have hf := fun o => bel12.frozen (p := ⟨w.heap.size, o, none⟩) (by simp)
  have hz : w.heap.size < w2.heap.size := by have := bel12.size; simp at this; omega
  have v1 : ∀ n cap, (convert 23 9 (.slice (some ⟨g1, 0, none⟩) k cap)).run Try.prog (w2.drewN n) = .ok (.string (s.extract 0 k)) (w2.drewN n) := fun n cap => by
    have := Lib.run_convert_window (P := Try.prog) (w2.drewN n) _ _ _ Try.underlying23 Try.underlying5 Try.underlying9 g1 0 s (Lib.Bytes.drewN HB1'.out n) 0 k cap (by omega)
    simpa using this
  have v2 : ∀ n, (convert 23 9 (.slice (some ⟨g1, A, none⟩) (s.size - (k + t.size)) cA)).run Try.prog (w2.drewN n) = .ok (.string (s.extract (k + t.size) s.size)) (w2.drewN n) := fun n => by
    have := convB (w2.drewN n) g1 A cA _ (Lib.Bytes.drewN hA n)
    rwa [show (s.extract (k + t.size) s.size).size = s.size - (k + t.size) from by rw [ByteArray.size_extract]; omega] at this
  go_wp2
  refine bodyPost_ret (v := PartsOf (s.extract 0 k) (s.extract (k + t.size) s.size) true) (by simp [PartsOf, results, Try.results17, go_sem, hc]) rfl ⟨rfl, ?_⟩
  exact (((belowDrewN (((Below.refl _ w).alloc (Nat.le_refl _) _).trans (bel12.mono (by simp))) q).setCell (p := ⟨w.heap.size, 0, none⟩) (Nat.le_refl _) _).setCell (p := ⟨w.heap.size, 1, none⟩) (Nat.le_refl _) _).setCell (p := ⟨w.heap.size, 2, none⟩) (Nat.le_refl _) _

set_option maxHeartbeats 2000000 in
theorem BytCutLast_no (s t : ByteArray) (b o c b' o' c' : Nat) (w : World) (zs : s.size < 4294967281) (zt : t.size < 4294967281) (hs : Hid (Lib.Bytes w b o s)) (ht : Hid (Lib.Bytes w b' o' t)) (hb : b < w.heap.size) (hb' : b' < w.heap.size) (h : lastIndex s.data.toList t.data.toList = -1) :
    Calls Try.prog 19 #[.slice (some ⟨b, o, none⟩) s.size c, .slice (some ⟨b', o', none⟩) t.size c'] w fun e w' => e = .returned (PartsOf s ByteArray.empty false) ∧ Below w.heap.size w w' := by
  have H := Lib.hid h
  clear h
  go_enter Try.func19, Try.ntmps19
  go_wp2_with fail
  have HS0 := Lib.hid (bytes_alloc hs.out hb (.cells #[.string ByteArray.empty, .string ByteArray.empty, .bool false] 29))
  refine (CloneB s b o c _ zs HS0).mono ?_
  rintro e w1 ⟨g1, c1, rfl, hg1, hl1, hc1, hB1, bel1⟩
  have HB1 := Lib.hid hB1
  clear hB1
  go_wp2_with fail
  have HT1 := Lib.hid (bytes_below (bytes_alloc ht.out hb' _) bel1 (by simp; omega))
  refine (CloneB t b' o' c' _ zt HT1).mono ?_
  rintro e w2 ⟨g2, c2, rfl, hg2, hl2, hc2, hB2, bel2⟩
  have HB2 := Lib.hid hB2
  have HB1' := Lib.hid (bytes_below HB1.out bel2 hl1)
  clear hB2
  go_wp2_with fail
  refine (gbCutLast_no g1 0 c1 g2 0 c2 s t _ zs HB1' HB2 hc1 H.out).mono ?_
  rintro e w3 ⟨rfl, q, rfl⟩
  have bel12 := bel1.trans (bel2.mono bel1.size)
  have hc := fun o => bel12.cell (p := ⟨w.heap.size, o, none⟩) (by simp)
  have hf := fun o => bel12.frozen (p := ⟨w.heap.size, o, none⟩) (by simp)
  have hz : w.heap.size < w2.heap.size := by have := bel12.size; simp at this; omega
  have v1 : ∀ n, (convert 23 9 (.slice (some ⟨g1, 0, none⟩) s.size c1)).run Try.prog (w2.drewN n) = .ok (.string s) (w2.drewN n) := fun n => convB _ _ _ _ _ (Lib.Bytes.drewN HB1'.out n)
  have v2 : ∀ W : World, (convert 23 9 (.slice none 0 0)).run Try.prog W = .ok (.string ByteArray.empty) W := fun W => by
    kernel_rfl
  go_wp2
  refine bodyPost_ret (v := PartsOf s ByteArray.empty false) (by simp [PartsOf, results, Try.results19, go_sem, hc]) rfl ⟨rfl, ?_⟩
  exact (((belowDrewN (((Below.refl _ w).alloc (Nat.le_refl _) _).trans (bel12.mono (by simp))) q).setCell (p := ⟨w.heap.size, 0, none⟩) (Nat.le_refl _) _).setCell (p := ⟨w.heap.size, 1, none⟩) (Nat.le_refl _) _).setCell (p := ⟨w.heap.size, 2, none⟩) (Nat.le_refl _) _

set_option maxHeartbeats 2000000 in
theorem BytCutLast_yes (s t : ByteArray) (k : Nat) (b o c b' o' c' : Nat) (w : World) (zs : s.size < 4294967281) (zt : t.size < 4294967281) (hs : Hid (Lib.Bytes w b o s)) (ht : Hid (Lib.Bytes w b' o' t)) (hb : b < w.heap.size) (hb' : b' < w.heap.size) (h : lastIndex s.data.toList t.data.toList = k) (hk : k + t.size ≤ s.size) :
    Calls Try.prog 19 #[.slice (some ⟨b, o, none⟩) s.size c, .slice (some ⟨b', o', none⟩) t.size c'] w fun e w' => e = .returned (PartsOf (s.extract 0 k) (s.extract (k + t.size) s.size) true) ∧ Below w.heap.size w w' := by
  have H := Lib.hid h
  clear h
  go_enter Try.func19, Try.ntmps19
  go_wp2_with fail
  have HS0 := Lib.hid (bytes_alloc hs.out hb (.cells #[.string ByteArray.empty, .string ByteArray.empty, .bool false] 29))
  refine (CloneB s b o c _ zs HS0).mono ?_
  rintro e w1 ⟨g1, c1, rfl, hg1, hl1, hc1, hB1, bel1⟩
  have HB1 := Lib.hid hB1
  clear hB1
  go_wp2_with fail
  have HT1 := Lib.hid (bytes_below (bytes_alloc ht.out hb' _) bel1 (by simp; omega))
  refine (CloneB t b' o' c' _ zt HT1).mono ?_
  rintro e w2 ⟨g2, c2, rfl, hg2, hl2, hc2, hB2, bel2⟩
  have HB2 := Lib.hid hB2
  have HB1' := Lib.hid (bytes_below HB1.out bel2 hl1)
  clear hB2
  go_wp2_with fail
  refine (gbCutLast_yes g1 0 c1 g2 0 c2 k s t _ zs HB1' HB2 hc1 H.out hk).mono ?_
  rintro e w3 ⟨A, cA, rfl, hA, q, rfl⟩
  have bel12 := bel1.trans (bel2.mono bel1.size)
  have hc := fun o => bel12.cell (p := ⟨w.heap.size, o, none⟩) (by simp)
  have hf := fun o => bel12.frozen (p := ⟨w.heap.size, o, none⟩) (by simp)
  have hz : w.heap.size < w2.heap.size := by have := bel12.size; simp at this; omega
  have v1 : ∀ n cap, (convert 23 9 (.slice (some ⟨g1, 0, none⟩) k cap)).run Try.prog (w2.drewN n) = .ok (.string (s.extract 0 k)) (w2.drewN n) := fun n cap => by
    have := Lib.run_convert_window (P := Try.prog) (w2.drewN n) _ _ _ Try.underlying23 Try.underlying5 Try.underlying9 g1 0 s (Lib.Bytes.drewN HB1'.out n) 0 k cap (by omega)
    simpa using this
  have v2 : ∀ n, (convert 23 9 (.slice (some ⟨g1, A, none⟩) (s.size - (k + t.size)) cA)).run Try.prog (w2.drewN n) = .ok (.string (s.extract (k + t.size) s.size)) (w2.drewN n) := fun n => by
    have := convB (w2.drewN n) g1 A cA _ (Lib.Bytes.drewN hA n)
    rwa [show (s.extract (k + t.size) s.size).size = s.size - (k + t.size) from by rw [ByteArray.size_extract]; omega] at this
  go_wp2
  refine bodyPost_ret (v := PartsOf (s.extract 0 k) (s.extract (k + t.size) s.size) true) (by simp [PartsOf, results, Try.results19, go_sem, hc]) rfl ⟨rfl, ?_⟩
  exact (((belowDrewN (((Below.refl _ w).alloc (Nat.le_refl _) _).trans (bel12.mono (by simp))) q).setCell (p := ⟨w.heap.size, 0, none⟩) (Nat.le_refl _) _).setCell (p := ⟨w.heap.size, 1, none⟩) (Nat.le_refl _) _).setCell (p := ⟨w.heap.size, 2, none⟩) (Nat.le_refl _) _

end Go.Proofs.Ytiggomaoijamhaa

/- CutLast, of strings and of slices (after Cut.lean and BCut.lean, by program). -/
import Derived.Test.YtiggomaoijamhaaBCut
import Derived.Test.YtiggomaoijamhaaLastS
namespace Go.Proofs.Ytiggomaoijamhaa
open Go.RowKit Go.Lib

set_option maxHeartbeats 1000000 in
theorem gbCutLast_no (b1 o1 c1 b2 o2 c2 : Nat) (s sep : ByteArray) (w : World) (hs : s.size < 4294967281)
    (hc1 : Hid (Lib.Bytes w b1 o1 s)) (hc2 : Hid (Lib.Bytes w b2 o2 sep)) (hcap : s.size ≤ c1) (h : lastIndex s.data.toList sep.data.toList = -1) :
    Calls Try.prog 32 #[.slice (some ⟨b1, o1, none⟩) s.size c1, .slice (some ⟨b2, o2, none⟩) sep.size c2] w fun e w' => e = .returned (.tuple #[.slice (some ⟨b1, o1, none⟩) s.size c1, .slice none 0 0, .bool false]) ∧ ∃ q, w' = w.drewN q := by
  have H := Lib.hid h
  clear h
  go_enter Try.func32, Try.ntmps32
  go_wp2_with fail
  refine (gbLast b1 o1 c1 b2 o2 c2 s sep _ hs hc1 hc2 hcap).mono ?_
  rintro e w' ⟨rfl, q, rfl⟩
  rw [H.out]
  go_wp2
  go_ret3
  exact ⟨rfl, q, rfl⟩

set_option maxHeartbeats 1000000 in
theorem gbCutLast_yes (b1 o1 c1 b2 o2 c2 k : Nat) (s sep : ByteArray) (w : World) (hs : s.size < 4294967281)
    (hc1 : Hid (Lib.Bytes w b1 o1 s)) (hc2 : Hid (Lib.Bytes w b2 o2 sep)) (hcap : s.size ≤ c1) (h : lastIndex s.data.toList sep.data.toList = k) (hk : k + sep.size ≤ s.size) :
    Calls Try.prog 32 #[.slice (some ⟨b1, o1, none⟩) s.size c1, .slice (some ⟨b2, o2, none⟩) sep.size c2] w fun e w' => ∃ A c, e = .returned (.tuple #[.slice (some ⟨b1, o1, none⟩) k c1, .slice (some ⟨b1, A, none⟩) (s.size - (k + sep.size)) c, .bool true]) ∧ Lib.Bytes w b1 A (s.extract (k + sep.size) s.size) ∧ ∃ q, w' = w.drewN q := by
  obtain ⟨A, c, hsl, hA⟩ := tail_slice b1 o1 c1 (k + sep.size) s w hc1.out hk hcap
  have HA := Lib.hid hA
  have H := Lib.hid h
  rw [show ((k + sep.size : Nat) : Int) = (k : Int) + sep.size by omega] at hsl
  have q1 : IntKind.i64.wrap ((k : Int) + sep.size) = (k : Int) + sep.size := by rw [IntKind.wrap_i64]; omega
  have q5 : (k : Int) ≤ c1 := by omega
  have q6 : k ≤ c1 := by omega
  clear h hA
  go_enter Try.func32, Try.ntmps32
  go_wp2_with fail
  refine (gbLast b1 o1 c1 b2 o2 c2 s sep _ hs hc1 hc2 hcap).mono ?_
  rintro e w' ⟨rfl, q, rfl⟩
  rw [H.out]
  go_wp2_with fail
  go_quiet (fail)
  go_wp2
  go_ret3
  exact ⟨A, c, rfl, HA.out, _, World.drewN_drewN _ _ _⟩

set_option maxHeartbeats 1000000 in
theorem gCutLast_no (s sep : ByteArray) (w : World) (hs : s.size < 4294967281) (h : lastIndex s.data.toList sep.data.toList = -1) :
    Calls Try.prog 33 #[.string s, .string sep] w fun e w' => e = .returned (.tuple #[.string s, .string ByteArray.empty, .bool false]) ∧ Below w.heap.size w w' := by
  have H := Lib.hid h
  clear h
  go_enter Try.func33, Try.ntmps33
  go_wp2_with fail
  refine (gLast s sep (by omega) _).mono ?_
  rintro e w' ⟨rfl, rfl⟩
  rw [H.out]
  go_wp2
  go_ret3
  exact ⟨rfl, Below.refl _ _⟩

set_option maxHeartbeats 1000000 in
theorem gCutLast_yes (s sep : ByteArray) (k : Nat) (w : World) (hs : s.size < 4294967281) (h : lastIndex s.data.toList sep.data.toList = k) (hk : k + sep.size ≤ s.size) :
    Calls Try.prog 33 #[.string s, .string sep] w fun e w' => e = .returned (.tuple #[.string (s.extract 0 k), .string (s.extract (k + sep.size) s.size), .bool true]) ∧ Below w.heap.size w w' := by
  have H := Lib.hid h
  have q1 : IntKind.i64.wrap ((k : Int) + sep.size) = (k : Int) + sep.size := by rw [IntKind.wrap_i64]; omega
  have q2 : ((k : Int) + sep.size).toNat = k + sep.size := by omega
  have q3 : (0 : Int) ≤ (k : Int) + sep.size := by omega
  have q4 : (k : Int) + sep.size ≤ s.size := by omega
  have q5 : (k : Int) ≤ s.size := by omega
  have q6 : k ≤ s.size := by omega
  clear h
  go_enter Try.func33, Try.ntmps33
  go_wp2_with fail
  refine (gLast s sep (by omega) _).mono ?_
  rintro e w' ⟨rfl, rfl⟩
  rw [H.out]
  go_wp2_with fail
  go_quiet (fail)
  go_wp2
  go_ret3
  exact ⟨rfl, below_drewN _ _⟩

set_option maxHeartbeats 1000000 in
theorem StrCutLast_no (s sep : ByteArray) (w : World) (hs : s.size < 4294967281) (h : lastIndex s.data.toList sep.data.toList = -1) :
    Calls Try.prog 20 #[.string s, .string sep] w fun e w' => e = .returned (PartsOf s ByteArray.empty false) ∧ Below w.heap.size w w' := by
  have H := Lib.hid h
  clear h
  go_enter Try.func20, Try.ntmps20
  go_wp2_with fail
  refine (gCutLast_no s sep _ hs H.out).mono ?_
  rintro e w1 ⟨rfl, bel⟩
  have hc := fun o => bel.cell (p := ⟨w.heap.size, o, none⟩) (by simp)
  have hf := fun o => bel.frozen (p := ⟨w.heap.size, o, none⟩) (by simp)
  have hz : w.heap.size < w1.heap.size := by have := bel.size; simp at this; omega
  go_wp2
  refine bodyPost_ret (v := PartsOf s ByteArray.empty false) (by simp [PartsOf, results, Try.results20, go_sem, hc]) rfl ⟨rfl, ?_⟩
  exact (((((Below.refl _ w).alloc (Nat.le_refl _) _).trans (bel.mono (by simp))).setCell (p := ⟨w.heap.size, 0, none⟩) (Nat.le_refl _) _).setCell (p := ⟨w.heap.size, 1, none⟩) (Nat.le_refl _) _).setCell (p := ⟨w.heap.size, 2, none⟩) (Nat.le_refl _) _

set_option maxHeartbeats 1000000 in
theorem StrCutLast_yes (s sep : ByteArray) (k : Nat) (w : World) (hs : s.size < 4294967281) (h : lastIndex s.data.toList sep.data.toList = k) (hk : k + sep.size ≤ s.size) :
    Calls Try.prog 20 #[.string s, .string sep] w fun e w' => e = .returned (PartsOf (s.extract 0 k) (s.extract (k + sep.size) s.size) true) ∧ Below w.heap.size w w' := by
  have H := Lib.hid h
  clear h
  go_enter Try.func20, Try.ntmps20
  go_wp2_with fail
  refine (gCutLast_yes s sep k _ hs H.out hk).mono ?_
  rintro e w1 ⟨rfl, bel⟩
  have hc := fun o => bel.cell (p := ⟨w.heap.size, o, none⟩) (by simp)
  have hf := fun o => bel.frozen (p := ⟨w.heap.size, o, none⟩) (by simp)
  have hz : w.heap.size < w1.heap.size := by have := bel.size; simp at this; omega
  go_wp2
  refine bodyPost_ret (v := PartsOf (s.extract 0 k) (s.extract (k + sep.size) s.size) true) (by simp [PartsOf, results, Try.results20, go_sem, hc]) rfl ⟨rfl, ?_⟩
  exact (((((Below.refl _ w).alloc (Nat.le_refl _) _).trans (bel.mono (by simp))).setCell (p := ⟨w.heap.size, 0, none⟩) (Nat.le_refl _) _).setCell (p := ⟨w.heap.size, 1, none⟩) (Nat.le_refl _) _).setCell (p := ⟨w.heap.size, 2, none⟩) (Nat.le_refl _) _
end Go.Proofs.Ytiggomaoijamhaa

/- Contracts of Cut. -/
import Derived.Test.YtblaldahhhokmaaDoorSIx
import Derived.Deep.RegionWith
import Derived.Deep.QuietTactic
import Derived.BigQuiet
namespace Go.Proofs.YtblaldahhhokmaaDoor
open Go.RowKit Go.Lib

theorem first_or (s sub : ByteArray) : ∀ n, NoAt s sub n ∨ ∃ k, k < n ∧ NoAt s sub k ∧ atB s sub k = true
  | 0 => .inl (NoAt.zero _ _)
  | n + 1 => by
    rcases first_or s sub n with h | ⟨k, hk, h1, h2⟩
    · cases hb : atB s sub n with
      | false => exact .inl (h.succ hb)
      | true => exact .inr ⟨n, by omega, h, hb⟩
    · exact .inr ⟨k, by omega, h1, h2⟩

/-- What the index is: none, or a place with room. -/
theorem index_cases (s sub : ByteArray) : (index s.data.toList sub.data.toList = -1 ∧ NoAt s sub (s.size + 1)) ∨ ∃ k : Nat, index s.data.toList sub.data.toList = k ∧ k + sub.size ≤ s.size ∧ NoAt s sub k ∧ atB s sub k = true := by
  rcases first_or s sub (s.size + 1) with h | ⟨k, hk, h1, h2⟩
  · exact .inl ⟨h.miss (by omega), h⟩
  · refine .inr ⟨k, h1.hit (by omega) h2, ?_, h1, h2⟩
    by_cases hl : k + sub.size ≤ s.size
    · exact hl
    · rw [atB_long s sub k (by omega)] at h2; cases h2

theorem below_drewN (w : World) (n : Nat) : Below w.heap.size w (w.drewN n) := ⟨rfl, rfl, rfl, Nat.le_refl _, fun _ _ => rfl⟩

set_option maxHeartbeats 1000000 in
theorem sCut_no (s sep : ByteArray) (w : World) (hs : s.size < 4294967281) (h : index s.data.toList sep.data.toList = -1) :
    Calls Tryd.prog 58 #[.string s, .string sep] w fun e w' => e = .returned (.tuple #[.string s, .string ByteArray.empty, .bool false]) ∧ Below w.heap.size w w' := by
  have H := Lib.hid h
  clear h
  go_enter Tryd.func58, Tryd.ntmps58
  go_wp2_with fail
  refine (Index s sep _ hs).mono ?_
  rintro e w' ⟨rfl, rfl⟩
  rw [H.out]
  go_wp2
  go_ret3
  exact ⟨rfl, Below.refl _ _⟩

set_option maxHeartbeats 1000000 in
theorem sCut_yes (s sep : ByteArray) (k : Nat) (w : World) (hs : s.size < 4294967281) (h : index s.data.toList sep.data.toList = k) (hk : k + sep.size ≤ s.size) :
    Calls Tryd.prog 58 #[.string s, .string sep] w fun e w' => e = .returned (.tuple #[.string (s.extract 0 k), .string (s.extract (k + sep.size) s.size), .bool true]) ∧ Below w.heap.size w w' := by
  have H := Lib.hid h
  have q1 : IntKind.i64.wrap ((k : Int) + sep.size) = (k : Int) + sep.size := by rw [IntKind.wrap_i64]; omega
  have q2 : ((k : Int) + sep.size).toNat = k + sep.size := by omega
  have q3 : (0 : Int) ≤ (k : Int) + sep.size := by omega
  have q4 : (k : Int) + sep.size ≤ s.size := by omega
  have q5 : (k : Int) ≤ s.size := by omega
  have q6 : k ≤ s.size := by omega
  clear h
  go_enter Tryd.func58, Tryd.ntmps58
  go_wp2_with fail
  refine (Index s sep _ hs).mono ?_
  rintro e w' ⟨rfl, rfl⟩
  rw [H.out]
  go_wp2_with fail
  go_quiet (fail)
  go_wp2
  go_ret3
  exact ⟨rfl, below_drewN _ _⟩

set_option maxHeartbeats 1000000 in
theorem gCut_no (s sep : ByteArray) (w : World) (hs : s.size < 4294967281) (h : index s.data.toList sep.data.toList = -1) :
    Calls Tryd.prog 44 #[.string s, .string sep] w fun e w' => e = .returned (.tuple #[.string s, .string ByteArray.empty, .bool false]) ∧ Below w.heap.size w w' := by
  have H := Lib.hid h
  clear h
  go_enter Tryd.func44, Tryd.ntmps44
  go_wp2_with fail
  refine (sCut_no s sep _ hs H.out).mono ?_
  rintro e w1 ⟨rfl, bel⟩
  go_wp2
  go_ret3
  exact ⟨rfl, bel⟩
set_option maxHeartbeats 1000000 in
theorem gCut_yes (s sep : ByteArray) (k : Nat) (w : World) (hs : s.size < 4294967281) (h : index s.data.toList sep.data.toList = k) (hk : k + sep.size ≤ s.size) :
    Calls Tryd.prog 44 #[.string s, .string sep] w fun e w' => e = .returned (.tuple #[.string (s.extract 0 k), .string (s.extract (k + sep.size) s.size), .bool true]) ∧ Below w.heap.size w w' := by
  have H := Lib.hid h
  clear h
  go_enter Tryd.func44, Tryd.ntmps44
  go_wp2_with fail
  refine (sCut_yes s sep k _ hs H.out hk).mono ?_
  rintro e w1 ⟨rfl, bel⟩
  go_wp2
  go_ret3
  exact ⟨rfl, bel⟩

/-- What a cut makes. -/
def PartsOf (b a : ByteArray) (f : Bool) : Value := .agg #[.string b, .string a, .bool f]

set_option maxHeartbeats 1000000 in
theorem StrCut_no (s sep : ByteArray) (w : World) (hs : s.size < 4294967281) (h : index s.data.toList sep.data.toList = -1) :
    Calls Tryd.prog 25 #[.string s, .string sep] w fun e w' => e = .returned (PartsOf s ByteArray.empty false) ∧ Below w.heap.size w w' := by
  have H := Lib.hid h
  clear h
  go_enter Tryd.func25, Tryd.ntmps25
  go_wp2_with fail
  refine (gCut_no s sep _ hs H.out).mono ?_
  rintro e w1 ⟨rfl, bel⟩
  have hc := fun o => bel.cell (p := ⟨w.heap.size, o, none⟩) (by simp)
  have hf := fun o => bel.frozen (p := ⟨w.heap.size, o, none⟩) (by simp)
  have hz : w.heap.size < w1.heap.size := by have := bel.size; simp at this; omega
  go_wp2
  refine bodyPost_ret (v := PartsOf s ByteArray.empty false) (by simp [PartsOf, results, Tryd.results25, go_sem, hc]) rfl ⟨rfl, ?_⟩
  exact (((((Below.refl _ w).alloc (Nat.le_refl _) _).trans (bel.mono (by simp))).setCell (p := ⟨w.heap.size, 0, none⟩) (Nat.le_refl _) _).setCell (p := ⟨w.heap.size, 1, none⟩) (Nat.le_refl _) _).setCell (p := ⟨w.heap.size, 2, none⟩) (Nat.le_refl _) _

set_option maxHeartbeats 1000000 in
theorem StrCut_yes (s sep : ByteArray) (k : Nat) (w : World) (hs : s.size < 4294967281) (h : index s.data.toList sep.data.toList = k) (hk : k + sep.size ≤ s.size) :
    Calls Tryd.prog 25 #[.string s, .string sep] w fun e w' => e = .returned (PartsOf (s.extract 0 k) (s.extract (k + sep.size) s.size) true) ∧ Below w.heap.size w w' := by
  have H := Lib.hid h
  clear h
  go_enter Tryd.func25, Tryd.ntmps25
  go_wp2_with fail
  refine (gCut_yes s sep k _ hs H.out hk).mono ?_
  rintro e w1 ⟨rfl, bel⟩
  have hc := fun o => bel.cell (p := ⟨w.heap.size, o, none⟩) (by simp)
  have hf := fun o => bel.frozen (p := ⟨w.heap.size, o, none⟩) (by simp)
  have hz : w.heap.size < w1.heap.size := by have := bel.size; simp at this; omega
  go_wp2
  refine bodyPost_ret (v := PartsOf (s.extract 0 k) (s.extract (k + sep.size) s.size) true) (by simp [PartsOf, results, Tryd.results25, go_sem, hc]) rfl ⟨rfl, ?_⟩
  exact (((((Below.refl _ w).alloc (Nat.le_refl _) _).trans (bel.mono (by simp))).setCell (p := ⟨w.heap.size, 0, none⟩) (Nat.le_refl _) _).setCell (p := ⟨w.heap.size, 1, none⟩) (Nat.le_refl _) _).setCell (p := ⟨w.heap.size, 2, none⟩) (Nat.le_refl _) _
end Go.Proofs.YtblaldahhhokmaaDoor

/- FnSplitTwo: the walk. -/
import Derived.Test.YtblaldahhhokmaaDoorSplN
import Derived.Test.YtblaldahhhokmaaDoorCut
import Derived.Test.YtblaldahhhokmaaDoorL8
set_option linter.unusedVariables false
namespace Go.Proofs.YtblaldahhhokmaaDoor
open Go.RowKit Go.Lib

theorem pcs_two_no (s sep : ByteArray) (h : index s.data.toList sep.data.toList = -1) : pcs s sep 0 2 = [s] := splitB_miss sep 0 _ s h
theorem pcs_two_yes (s sep : ByteArray) (k : Nat) (h1 : 1 ≤ sep.size) (h : index s.data.toList sep.data.toList = k) (hk : k + sep.size ≤ s.size) : pcs s sep 0 2 = [s.extract 0 k, s.extract (k + sep.size) s.size] := by
  have hN : pN s sep 2 = 2 := by
    have := pN_eq s sep 2 (by decide)
    rw [if_neg (by decide), Int.min_eq_left (by omega)] at this
    omega
  unfold pcs
  rw [hN]
  exact splitB_hit sep 0 0 s k h

theorem str_same (x : ByteArray) : (x.toList == x.toList) = true := by simp

set_option maxRecDepth 100000 in
set_option maxHeartbeats 2000000 in
theorem walk_FnSplitTwo (s sep : ByteArray) (w : World) (_hs : s.size ≤ maxLen) (_hcs : sep.size ≤ maxLen) (hT : Tabs w) :
    Calls Tryd.prog 7 #[.string s, .string sep] w fun e w' => e = .returned (.bool true) ∧ Below w.heap.size w w' := by
  clear hT
  by_cases hbig : 2147483647 < s.size
  · go_enter Tryd.func7, Tryd.ntmps7
    go_wp2
    go_ret
    exact ⟨rfl, Below.refl _ _⟩
  by_cases hbig2 : 2147483647 < sep.size
  · go_enter Tryd.func7, Tryd.ntmps7
    go_wp2
    go_ret
    exact ⟨rfl, Below.refl _ _⟩
  by_cases h0 : sep.size = 0
  · have he : sep = ByteArray.empty := by
      apply ByteArray.ext; apply Array.toList_inj.1; apply List.length_eq_zero_iff.1
      rw [Array.length_toList]; exact h0
    subst he
    go_enter Tryd.func7, Tryd.ntmps7
    go_wp2
    go_ret
    exact ⟨rfl, Below.refl _ _⟩
  have h1 : 1 ≤ sep.size := by omega
  have hemp : sep.toList.isEmpty = false := by
    rw [Go.ByteArray.toList_eq]
    cases hc : sep.data.toList with
    | nil => have := Lib.size_eq sep; rw [hc, List.length_nil] at this; omega
    | cons _ _ => rfl
  have q1 := str_same s
  rcases index_cases s sep with ⟨hi, hno⟩ | ⟨k, hi, hk, hno, ha⟩
  · have HI := Lib.hid hi
    have HP := Lib.hid (pcs_two_no s sep hi)
    clear hi hno
    go_enter Tryd.func7, Tryd.ntmps7
    go_wp2_with fail
    refine (StrCut_no s sep _ (by omega) HI.out).mono ?_
    rintro e w1 ⟨rfl, bel⟩
    have HB1 := Lib.hid bel
    clear bel
    unfold PartsOf
    go_wp2_with fail
    refine (StrSplitN s sep 2 _ (by omega) h1 (by decide) (by decide)).mono ?_
    rintro e w2 ⟨v, rfl, hv, bel2⟩
    rw [HP.out] at hv
    obtain ⟨A, c, rfl, hcap, hx⟩ := hv
    obtain ⟨g, o, rfl, hg, hcell⟩ := hx (by simp)
    have c0 : w2.cell? ⟨w1.heap.size, 0, none⟩ = some (.string s) := (bel2.cell (p := ⟨w1.heap.size, 0, none⟩) (by simp)).trans (by simp)
    have c2 : w2.cell? ⟨w1.heap.size, 2, none⟩ = some (.bool false) := (bel2.cell (p := ⟨w1.heap.size, 2, none⟩) (by simp)).trans (by simp)
    have p0 : w2.cell? ⟨g, o, none⟩ = some (.string s) := hcell 0 s rfl
    have HB2 : Hid (Below w.heap.size w w2) := (HB1.out.alloc HB1.out.size _).trans (bel2.mono (by have := HB1.out.size; simp; omega))
    clear hx hcell bel2
    go_wp2_with fail
    go_ret
    exact ⟨rfl, HB2.out⟩
  · have HI := Lib.hid hi
    have HP := Lib.hid (pcs_two_yes s sep k h1 hi hk)
    have q2 := str_same (s.extract 0 k)
    have q3 := str_same (s.extract (k + sep.size) s.size)
    clear hi hno ha
    go_enter Tryd.func7, Tryd.ntmps7
    go_wp2_with fail
    refine (StrCut_yes s sep k _ (by omega) HI.out hk).mono ?_
    rintro e w1 ⟨rfl, bel⟩
    have HB1 := Lib.hid bel
    clear bel
    unfold PartsOf
    go_wp2_with fail
    refine (StrSplitN s sep 2 _ (by omega) h1 (by decide) (by decide)).mono ?_
    rintro e w2 ⟨v, rfl, hv, bel2⟩
    rw [HP.out] at hv
    obtain ⟨A, c, rfl, hcap, hx⟩ := hv
    obtain ⟨g, o, rfl, hg, hcell⟩ := hx (by simp)
    obtain ⟨x, hxd⟩ : ∃ x, x = s.extract 0 k := ⟨_, rfl⟩
    obtain ⟨y, hyd⟩ : ∃ y, y = s.extract (k + sep.size) s.size := ⟨_, rfl⟩
    rw [← hxd] at q2
    rw [← hyd] at q3
    have c0 : w2.cell? ⟨w1.heap.size, 0, none⟩ = some (.string x) := (bel2.cell (p := ⟨w1.heap.size, 0, none⟩) (by simp)).trans (by simp [hxd])
    have c1 : w2.cell? ⟨w1.heap.size, 1, none⟩ = some (.string y) := (bel2.cell (p := ⟨w1.heap.size, 1, none⟩) (by simp)).trans (by simp [hyd])
    have c2 : w2.cell? ⟨w1.heap.size, 2, none⟩ = some (.bool true) := (bel2.cell (p := ⟨w1.heap.size, 2, none⟩) (by simp)).trans (by simp)
    have p0 : w2.cell? ⟨g, o, none⟩ = some (.string x) := hxd ▸ hcell 0 _ rfl
    have p1 : w2.cell? ⟨g, o + 1, none⟩ = some (.string y) := hyd ▸ hcell 1 _ rfl
    have HB2 : Hid (Below w.heap.size w w2) := (HB1.out.alloc HB1.out.size _).trans (bel2.mono (by have := HB1.out.size; simp; omega))
    clear hx hcell bel2 hxd hyd
    go_wp2_with fail
    go_quiet (fail)
    go_wp2_with fail
    go_ret
    exact ⟨rfl, HB2.out.trans ((below_drewN w2 _).mono HB2.out.size)⟩
end Go.Proofs.YtblaldahhhokmaaDoor

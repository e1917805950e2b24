/- FnSplitJoin: the walk. -/
import Derived.Test.YtblaldahhhokmaaDoorStrJ
set_option linter.unusedVariables false
namespace Go.Proofs.YtblaldahhhokmaaDoor
open Go.RowKit Go.Lib

theorem join_ab : join ([(⟨#[97]⟩ : ByteArray), ⟨#[98]⟩].map (·.data.toList)) (ByteArray.data ⟨#[44]⟩).toList = [97, 44, 98] := by decide +kernel
theorem bytes_back (s : ByteArray) : (⟨s.data.toList.toArray⟩ : ByteArray) = s := by cases s; rfl
/-- The list that a literal of two texts makes. -/
theorem StrsAt.two (w : World) (a b : ByteArray) (t : TypeId) : StrsAt (w.alloc (.cells #[.string a, .string b] t)) (.slice (some ⟨w.heap.size, 0, none⟩) 2 2) [a, b] := by
  refine ⟨_, 2, rfl, Nat.le_refl _, fun _ => ⟨w.heap.size, 0, rfl, by simp, fun j u hu => ?_⟩⟩
  match j, hu with
  | 0, hu => obtain rfl : a = u := by simpa using hu
             rw [World.cell?_alloc_at _ _ _ _ rfl]; rfl
  | 1, hu => obtain rfl : b = u := by simpa using hu
             rw [World.cell?_alloc_at _ _ _ _ rfl]; rfl
  | j + 2, hu => simp at hu

set_option maxRecDepth 100000 in
set_option maxHeartbeats 2000000 in
theorem walk_FnSplitJoin (s sep : ByteArray) (w : World) (_hs : s.size ≤ maxLen) (_hcs : sep.size ≤ maxLen) (hT : Tabs w) :
    Calls Tryd.prog 12 #[.string s, .string sep] w fun e w' => e = .returned (.bool true) ∧ Below w.heap.size w w' := by
  have HT := Lib.hid hT
  clear hT
  by_cases hbig : 2147483647 < s.size
  · go_enter Tryd.func12, Tryd.ntmps12
    go_wp2
    go_ret
    exact ⟨rfl, Below.refl _ _⟩
  by_cases hbig2 : 2147483647 < sep.size
  · go_enter Tryd.func12, Tryd.ntmps12
    go_wp2
    go_ret
    exact ⟨rfl, Below.refl _ _⟩
  have hs' : s.size < 2147483648 := by omega
  have hp' : sep.size < 2147483648 := by omega
  have hlen := allP_small s sep 0 (-1) (by decide) hs'
  have hlen2 := allP_small s sep sep.size (-1) (by decide) hs'
  have HJ := Lib.hid (all_join s sep)
  have HA := Lib.hid (all_after s sep)
  have hsz : s.data.toList.length = s.size := by simp
  go_enter Tryd.func12, Tryd.ntmps12
  go_wp2_with fail
  refine (StrSplit s sep _ hs' HT.out).mono ?_
  rintro e w1 ⟨v1, rfl, hA, hB1⟩
  have HB1 := Lib.hid hB1
  have HV := Lib.hid hA
  clear hB1 hA
  go_wp2_with fail
  refine (StrJoin (allP s sep 0 (-1)) _ sep _ HV.out (by omega) (by rw [HJ.out, hsz]; omega)).mono ?_
  rintro e w2 ⟨rfl, hB2⟩
  rw [HJ.out, bytes_back]
  have HB2 := bl3 HB1 hB2
  clear hB2 HV HB1
  go_wp2_with fail
  refine (StrSplitAfter s sep _ hs' (HT.out.below HB2.out)).mono ?_
  rintro e w3 ⟨v3, rfl, hA3, hB3⟩
  have HB3 := bl3 HB2 hB3
  have HV3 := Lib.hid hA3
  clear hB3 hA3 HB2
  go_wp2_with fail
  refine (StrJoin (allP s sep sep.size (-1)) _ ⟨#[]⟩ _ HV3.out (by omega) (by show (join _ []).length ≤ _; rw [HA.out, hsz]; omega)).mono ?_
  rintro e w4 ⟨rfl, hB4⟩
  rw [show join ((allP s sep sep.size (-1)).map (·.data.toList)) (ByteArray.data ⟨#[]⟩).toList = s.data.toList from HA.out, bytes_back]
  have HB4 := bl3 HB3 hB4
  clear hB4 HV3 HB3
  go_wp2_with fail
  refine (StrJoin [(⟨#[97]⟩ : ByteArray), ⟨#[98]⟩] _ ⟨#[44]⟩ _ (StrsAt.two w4 _ _ _) (by decide) (by rw [join_ab]; decide)).mono ?_
  rintro e w5 ⟨rfl, hB5⟩
  rw [join_ab]
  have HB5 := bl3 HB4 (((Below.refl _ w4).alloc (Nat.le_refl _) _).trans (hB5.mono (by simp)))
  clear hB5 HB4
  go_wp2_with fail
  go_ret
  exact ⟨rfl, HB5.out⟩
end Go.Proofs.YtblaldahhhokmaaDoor

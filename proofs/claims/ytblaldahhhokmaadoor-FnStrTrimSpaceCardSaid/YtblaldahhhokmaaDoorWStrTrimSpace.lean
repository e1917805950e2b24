/- FnStrTrimSpace: the walk. -/
import Derived.Test.YtblaldahhhokmaaDoorSeTr
set_option linter.unusedVariables false
namespace Go.Proofs.YtblaldahhhokmaaDoor
open Go.RowKit Go.Lib

theorem trimL_size (s : ByteArray) : (goTrimLeft s).size ≤ s.size := by
  unfold goTrimLeft
  split
  · exact Nat.zero_le _
  · rw [ByteArray.size_extract]; omega

set_option maxRecDepth 100000 in
set_option maxHeartbeats 2000000 in
theorem walk_FnStrTrimSpace (s : ByteArray) (w : World) (_hs : s.size ≤ maxLen) (hT : Spaces w) (hU : Tabs w) :
    Calls Tryd.prog 4 #[.string s] w fun e w' => e = .returned (.bool true) ∧ Below w.heap.size w w' := by
  have HT := Lib.hid hT
  have HU := Lib.hid hU
  clear hT hU
  by_cases hbig : 2147483647 < s.size
  · go_enter Tryd.func4, Tryd.ntmps4
    go_wp2
    go_ret
    exact ⟨rfl, Below.refl _ _⟩
  have hs' : s.size < 2147483648 := by omega
  have hl := trimL_size s
  go_enter Tryd.func4, Tryd.ntmps4
  go_wp2_with fail
  refine (SeValid s _ (by omega)).mono ?_
  rintro e w1 ⟨b1, rfl, hB1⟩
  have HB1 := Lib.hid hB1
  clear hB1
  cases b1 with
  | false =>
    go_wp2_with fail
    go_ret
    exact ⟨rfl, HB1.out⟩
  | true =>
    go_wp2_with fail
    refine (StrTrimSpace s _ hs' (HT.out.below HB1.out) (HU.out.below HB1.out)).mono ?_
    rintro e w2 ⟨rfl, hB2⟩
    have HB2 := bl3 HB1 hB2
    clear hB2
    go_wp2_with fail
    refine (SeSpaces _).mono ?_
    rintro e w3 ⟨rfl, rfl⟩
    go_wp2_with fail
    refine (SeTrimLeft s _ hs').mono ?_
    rintro e w4 ⟨rfl, hB4⟩
    have HB4 := bl3 HB2 hB4
    clear hB4
    go_wp2_with fail
    refine (SeSpaces _).mono ?_
    rintro e w5 ⟨rfl, rfl⟩
    go_wp2_with fail
    refine (SeTrimRight (goTrimLeft s) _ (by omega)).mono ?_
    rintro e w6 ⟨rfl, hB6⟩
    have HB6 := bl3 HB4 hB6
    clear hB6
    go_wp2_with fail
    refine (StrTrimSpace ⟨#[32, 97, 32]⟩ _ (by decide) (HT.out.below HB6.out) (HU.out.below HB6.out)).mono ?_
    rintro e w7 ⟨rfl, hB7⟩
    have HB7 := bl3 HB6 hB7
    rw [a_trim]
    clear hB7
    go_wp2_with fail
    go_ret
    exact ⟨rfl, HB7.out⟩
end Go.Proofs.YtblaldahhhokmaaDoor

/- FnStrFields: the walk. -/
import Derived.Test.YtblaldahhhokmaaDoorStrF
set_option linter.unusedVariables false
namespace Go.Proofs.YtblaldahhhokmaaDoor
open Go.RowKit Go.Lib

set_option maxRecDepth 100000 in
set_option maxHeartbeats 2000000 in
theorem walk_FnStrFields (s : ByteArray) (w : World) (_hs : s.size ≤ maxLen) (hT : Spaces w) :
    Calls Tryd.prog 3 #[.string s] w fun e w' => e = .returned (.bool true) ∧ Below w.heap.size w w' := by
  have HT := Lib.hid hT
  clear hT
  by_cases hbig : 2147483647 < s.size
  · go_enter Tryd.func3, Tryd.ntmps3
    go_wp2
    go_ret
    exact ⟨rfl, Below.refl _ _⟩
  have hs' : s.size < 2147483648 := by omega
  have hlen := goF_len s
  go_enter Tryd.func3, Tryd.ntmps3
  go_wp2_with fail
  refine (SeValid s _ (by omega)).mono ?_
  rintro e w1 ⟨b1, rfl, hB1⟩
  have HB1 := Lib.hid hB1
  clear hB1
  cases b1 with
  | false =>
    go_wp2_with fail
    go_ret
    exact ⟨rfl, HB1.out⟩
  | true =>
    go_wp2_with fail
    refine (StrFields s _ hs' (HT.out.below HB1.out)).mono ?_
    rintro e w2 ⟨v1, rfl, hA, hB2⟩
    have HB2 := bl3 HB1 hB2
    have HA := Lib.hid hA
    clear hB2 hA
    go_wp2_with fail
    refine (SeFields s _ hs').mono ?_
    rintro e w3 ⟨v2, rfl, hA2, hB3⟩
    have HB3 := bl3 HB2 hB3
    have HAb := Lib.hid (HA.out.below hB3)
    have HA2 := Lib.hid hA2
    clear hB3 hA2 HA
    go_wp2_with fail
    refine (SeSame (goFieldsP isSpaceR s) _ _ _ HAb.out HA2.out (by omega)).mono ?_
    rintro e w4 ⟨rfl, rfl⟩
    go_wp2_with fail
    obtain ⟨ab, hab⟩ : ∃ ab : ByteArray, ab = ⟨#[97, 32, 98]⟩ := ⟨_, rfl⟩
    rw [← hab]
    refine (StrFields ab _ (by rw [hab]; decide) (HT.out.below HB3.out)).mono ?_
    rintro e w5 ⟨v4, rfl, hA4, hB4⟩
    obtain ⟨A, c, rfl⟩ := hA4.slice
    have HB4 := bl3 HB3 hB4
    rw [hab, ab_fields]
    clear hA4 hB4 hab
    go_wp2_with fail
    go_ret
    exact ⟨rfl, HB4.out⟩
end Go.Proofs.YtblaldahhhokmaaDoor

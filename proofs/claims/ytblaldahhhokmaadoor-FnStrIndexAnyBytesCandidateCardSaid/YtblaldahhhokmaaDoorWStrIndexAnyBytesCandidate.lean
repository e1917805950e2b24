/- FnStrIndexAnyBytesCandidate: the walk. -/
import Derived.Test.YtblaldahhhokmaaDoorLastAny
set_option linter.unusedVariables false
namespace Go.Proofs.YtblaldahhhokmaaDoor
open Go.RowKit Go.Lib

theorem has_trueB (chars : ByteArray) : (fun c => hasR chars c == true) = hasR chars := by funext c; simp
theorem SeFirstOf_trueB (s chars : ByteArray) (w : World) (hs : s.size < 4294967281) (hcs : chars.size < 4294967281) :
    Calls Tryd.prog 30 #[.string s, .string chars, .bool true] w fun e w' => e = .returned (.int .i64 (fP s (hasR chars) (starts s 0))) ∧ Below w.heap.size w w' := by
  have := SeFirstOf s chars true w hs hcs
  rw [has_trueB] at this
  exact this
theorem SeLastOf_trueB (s chars : ByteArray) (w : World) (hs : s.size < 4294967281) (hcs : chars.size < 4294967281) :
    Calls Tryd.prog 32 #[.string s, .string chars, .bool true] w fun e w' => e = .returned (.int .i64 (lP s (hasR chars) (starts s 0))) ∧ Below w.heap.size w w' := by
  have := SeLastOf s chars true w hs hcs
  rw [has_trueB] at this
  exact this

theorem ab_anyB : fP ⟨#[97, 98]⟩ (hasR ⟨#[98]⟩) (starts ⟨#[97, 98]⟩ 0) = 1 := by
  rw [show fP ⟨#[97, 98]⟩ (hasR ⟨#[98]⟩) = fP ⟨#[97, 98]⟩ (isR ((Utf8.decode ⟨#[98]⟩ 0).1 : Int)) from fP_congr _ _ _ (hasR_one ⟨#[98]⟩ rfl), decode_one ⟨#[98]⟩ rfl]
  exact ab_rune

set_option maxRecDepth 100000 in
set_option maxHeartbeats 2000000 in
theorem walk_FnStrIndexAnyBytesCandidate (s chars : ByteArray) (w : World) (_hs : s.size ≤ maxLen) (_hcs : chars.size ≤ maxLen) (hT : Tabs w) :
    Calls Tryd.prog 10 #[.string s, .string chars] w fun e w' => e = .returned (.bool true) ∧ Below w.heap.size w w' := by
  have HT := Lib.hid hT
  clear hT
  by_cases hbig : 2147483647 < s.size
  · go_enter Tryd.func10, Tryd.ntmps10
    go_wp2
    go_ret
    exact ⟨rfl, Below.refl _ _⟩
  by_cases hbig2 : 2147483647 < chars.size
  · go_enter Tryd.func10, Tryd.ntmps10
    go_wp2
    go_ret
    exact ⟨rfl, Below.refl _ _⟩
  have hs' : s.size < 4294967281 := by omega
  have hcs' : chars.size < 4294967281 := by omega
  go_enter Tryd.func10, Tryd.ntmps10
  go_wp2_with fail
  refine (StrIndexAny s chars _ hs' hcs').mono ?_
  rintro e w3 ⟨rfl, hB3⟩
  have HB3 := Lib.hid hB3
  clear hB3
  go_wp2_with fail
  refine (SeFirstOf_trueB s chars _ hs' hcs').mono ?_
  rintro e w4 ⟨rfl, hB4⟩
  have HB4 := bl2 HB3 hB4
  clear hB4 HB3
  go_wp2_with fail
  refine (StrLastIndexAny s chars _ hs' hcs' (HT.out.below HB4.out)).mono ?_
  rintro e w6 ⟨rfl, hB6⟩
  have HB6 := bl2 HB4 hB6
  clear hB6 HB4
  go_wp2_with fail
  refine (SeLastOf_trueB s chars _ hs' hcs').mono ?_
  rintro e w7 ⟨rfl, hB7⟩
  have HB7 := bl2 HB6 hB7
  clear hB7 HB6
  go_wp2_with fail
  obtain ⟨ab, hab⟩ : ∃ ab : ByteArray, ab = ⟨#[97, 98]⟩ := ⟨_, rfl⟩
  obtain ⟨bb, hbb⟩ : ∃ bb : ByteArray, bb = ⟨#[98]⟩ := ⟨_, rfl⟩
  rw [← hab, ← hbb]
  refine (StrIndexAny ab bb _ (by rw [hab]; decide) (by rw [hbb]; decide)).mono ?_
  rintro e w5 ⟨rfl, hB5⟩
  have HB5 := bl2 HB7 hB5
  rw [hab, hbb, ab_anyB]
  clear hB5 HB7 hab hbb
  go_wp2_with fail
  go_ret
  exact ⟨rfl, HB5.out⟩
end Go.Proofs.YtblaldahhhokmaaDoor

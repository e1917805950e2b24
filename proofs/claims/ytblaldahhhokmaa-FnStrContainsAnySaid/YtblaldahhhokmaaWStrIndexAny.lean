/- FnStrIndexAny: the walk. -/
import Derived.Test.YtblaldahhhokmaaIdxAny
set_option linter.unusedVariables false
namespace Go.Proofs.Ytblaldahhhokmaa
open Go.RowKit Go.Lib

theorem has_true (chars : ByteArray) : (fun c => hasR chars c == true) = hasR chars := by funext c; simp
theorem SeFirstOf_true (s chars : ByteArray) (w : World) (hs : s.size < 4294967281) (hcs : chars.size < 4294967281) :
    Calls Try.prog 11 #[.string s, .string chars, .bool true] w fun e w' => e = .returned (.int .i64 (fP s (hasR chars) (starts s 0))) ∧ Below w.heap.size w w' := by
  have := SeFirstOf s chars true w hs hcs
  rw [has_true] at this
  exact this

theorem ab_any : fP ⟨#[97, 98]⟩ (hasR ⟨#[98]⟩) (starts ⟨#[97, 98]⟩ 0) = 1 := by
  rw [show fP ⟨#[97, 98]⟩ (hasR ⟨#[98]⟩) = fP ⟨#[97, 98]⟩ (isR ((Utf8.decode ⟨#[98]⟩ 0).1 : Int)) from fP_congr _ _ _ (hasR_one ⟨#[98]⟩ rfl), decode_one ⟨#[98]⟩ rfl]
  exact ab_rune

theorem bl2 {w w1 w2 : World} (h1 : Hid (Below w.heap.size w w1)) (h2 : Below w1.heap.size w1 w2) : Hid (Below w.heap.size w w2) := h1.out.trans (h2.mono h1.out.size)

set_option maxRecDepth 100000 in
set_option maxHeartbeats 2000000 in
theorem walk_FnStrIndexAny (s chars : ByteArray) (w : World) (_hs : s.size ≤ maxLen) (_hcs : chars.size ≤ maxLen) :
    Calls Try.prog 4 #[.string s, .string chars] w fun e w' => e = .returned (.bool true) ∧ Below w.heap.size w w' := by
  by_cases hbig : 2147483647 < s.size
  · go_enter Try.func4, Try.ntmps4
    go_wp2
    go_ret
    exact ⟨rfl, Below.refl _ _⟩
  by_cases hbig2 : 2147483647 < chars.size
  · go_enter Try.func4, Try.ntmps4
    go_wp2
    go_ret
    exact ⟨rfl, Below.refl _ _⟩
  have hs' : s.size < 4294967281 := by omega
  have hcs' : chars.size < 4294967281 := by omega
  go_enter Try.func4, Try.ntmps4
  go_wp2_with fail
  refine (SeValid s _ hs').mono ?_
  rintro e w1 ⟨b1, rfl, hB1⟩
  have HB1 := Lib.hid hB1
  clear hB1
  cases b1 with
  | false =>
    go_wp2_with fail
    go_ret
    exact ⟨rfl, HB1.out⟩
  | true =>
    go_wp2_with fail
    refine (SeValid chars _ hcs').mono ?_
    rintro e w2 ⟨b2, rfl, hB2⟩
    have HB2 := bl2 HB1 hB2
    clear hB2 HB1
    cases b2 with
    | false =>
      go_wp2_with fail
      go_ret
      exact ⟨rfl, HB2.out⟩
    | true =>
      go_wp2_with fail
      refine (StrIndexAny s chars _ hs' hcs').mono ?_
      rintro e w3 ⟨rfl, hB3⟩
      have HB3 := bl2 HB2 hB3
      clear hB3 HB2
      go_wp2_with fail
      refine (SeFirstOf_true s chars _ hs' hcs').mono ?_
      rintro e w4 ⟨rfl, hB4⟩
      have HB4 := bl2 HB3 hB4
      clear hB4 HB3
      go_wp2_with fail
      obtain ⟨ab, hab⟩ : ∃ ab : ByteArray, ab = ⟨#[97, 98]⟩ := ⟨_, rfl⟩
      obtain ⟨bb, hbb⟩ : ∃ bb : ByteArray, bb = ⟨#[98]⟩ := ⟨_, rfl⟩
      rw [← hab, ← hbb]
      refine (StrIndexAny ab bb _ (by rw [hab]; decide) (by rw [hbb]; decide)).mono ?_
      rintro e w5 ⟨rfl, hB5⟩
      have HB5 := bl2 HB4 hB5
      rw [hab, hbb, ab_any]
      clear hB5 HB4 hab hbb
      go_wp2_with fail
      go_ret
      exact ⟨rfl, HB5.out⟩
end Go.Proofs.Ytblaldahhhokmaa

/- FnStrContainsAny: the walk. -/
import Derived.Test.YtblaldahhhokmaaWStrIndexAny
set_option linter.unusedVariables false
namespace Go.Proofs.Ytblaldahhhokmaa
open Go.RowKit Go.Lib

theorem StrContainsAny (s chars : ByteArray) (w : World) (hs : s.size < 4294967281) (hcs : chars.size < 4294967281) :
    Calls Try.prog 12 #[.string s, .string chars] w fun e w' => e = .returned (.bool (decide (0 ≤ fP s (hasR chars) (starts s 0)))) ∧ Below w.heap.size w w' := by
  obtain ⟨V, hV⟩ : ∃ V, V = fP s (hasR chars) (starts s 0) := ⟨_, rfl⟩
  have HC : Hid (Calls Try.prog 14 #[.string s, .string chars] w fun e w' => e = .returned (.int .i64 V) ∧ Below w.heap.size w w') := by rw [hV]; exact gIndexAny s chars w hs hcs
  rw [← hV]
  clear hV
  go_enter Try.func12, Try.ntmps12
  go_wp2_with (first | (go_at_call 14; refine HC.out.mono ?_; rintro e w' ⟨rfl, hB⟩; have HB := Lib.hid hB; clear hB) | go_in)
  go_ret
  exact ⟨rfl, HB.out⟩

set_option maxRecDepth 100000 in
set_option maxHeartbeats 2000000 in
theorem walk_FnStrContainsAny (s chars : ByteArray) (w : World) (_hs : s.size ≤ maxLen) (_hcs : chars.size ≤ maxLen) :
    Calls Try.prog 5 #[.string s, .string chars] w fun e w' => e = .returned (.bool true) ∧ Below w.heap.size w w' := by
  by_cases hbig : 2147483647 < s.size
  · go_enter Try.func5, Try.ntmps5
    go_wp2
    go_ret
    exact ⟨rfl, Below.refl _ _⟩
  by_cases hbig2 : 2147483647 < chars.size
  · go_enter Try.func5, Try.ntmps5
    go_wp2
    go_ret
    exact ⟨rfl, Below.refl _ _⟩
  have hs' : s.size < 4294967281 := by omega
  have hcs' : chars.size < 4294967281 := by omega
  go_enter Try.func5, Try.ntmps5
  go_wp2_with fail
  refine (SeValid s _ hs').mono ?_
  rintro e w1 ⟨b1, rfl, hB1⟩
  have HB1 := Lib.hid hB1
  clear hB1
  cases b1 with
  | false =>
    go_wp2_with fail
    go_ret
    exact ⟨rfl, HB1.out⟩
  | true =>
    go_wp2_with fail
    refine (SeValid chars _ hcs').mono ?_
    rintro e w2 ⟨b2, rfl, hB2⟩
    have HB2 := bl2 HB1 hB2
    clear hB2 HB1
    cases b2 with
    | false =>
      go_wp2_with fail
      go_ret
      exact ⟨rfl, HB2.out⟩
    | true =>
      have C1 : ∀ W, Hid (Calls Try.prog 12 #[.string s, .string chars] W fun e w' => e = .returned (.bool (decide (0 ≤ fP s (hasR chars) (starts s 0)))) ∧ Below W.heap.size W w') := fun W => StrContainsAny s chars W hs' hcs'
      have C2 : ∀ W, Hid (Calls Try.prog 11 #[.string s, .string chars, .bool true] W fun e w' => e = .returned (.int .i64 (fP s (hasR chars) (starts s 0))) ∧ Below W.heap.size W w') := fun W => SeFirstOf_true s chars W hs' hcs'
      obtain ⟨V, hV⟩ : ∃ V, V = fP s (hasR chars) (starts s 0) := ⟨_, rfl⟩
      rw [← hV] at C1 C2
      clear hV
      have HC1 := Lib.hid C1
      have HC2 := Lib.hid C2
      clear C1 C2
      by_cases hq : 0 ≤ V
      all_goals
        go_wp2_with fail
        refine (HC1.out _).out.mono ?_
        rintro e w3 ⟨rfl, hB3⟩
        have HB3 := bl2 HB2 hB3
        clear hB3
        go_wp2_with fail
        refine (HC2.out _).out.mono ?_
        rintro e w4 ⟨rfl, hB4⟩
        have HB4 := bl2 HB3 hB4
        clear hB4 HB3
        go_wp2_with fail
        obtain ⟨ab, hab⟩ : ∃ ab : ByteArray, ab = ⟨#[97, 98]⟩ := ⟨_, rfl⟩
        obtain ⟨bb, hbb⟩ : ∃ bb : ByteArray, bb = ⟨#[98]⟩ := ⟨_, rfl⟩
        rw [← hab, ← hbb]
        refine (StrContainsAny ab bb _ (by rw [hab]; decide) (by rw [hbb]; decide)).mono ?_
        rintro e w5 ⟨rfl, hB5⟩
        have HB5 := bl2 HB4 hB5
        rw [hab, hbb, ab_any]
        clear hB5 HB4 hab hbb
        go_wp2_with fail
        go_ret
        exact ⟨rfl, HB5.out⟩
end Go.Proofs.Ytblaldahhhokmaa

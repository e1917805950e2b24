/- FnStrSplit: the walk. -/
import Derived.Test.YtblaldahhhokmaaDoorSplA
set_option linter.unusedVariables false
namespace Go.Proofs.YtblaldahhhokmaaDoor
open Go.RowKit Go.Lib

theorem ab_split : (allP ⟨#[97, 98]⟩ ⟨#[98]⟩ 0 (-1)).length = 2 := by decide +kernel
theorem bl3 {w w1 w2 : World} (h1 : Hid (Below w.heap.size w w1)) (h2 : Below w1.heap.size w1 w2) : Hid (Below w.heap.size w w2) := h1.out.trans (h2.mono h1.out.size)
theorem StrsAt.slice {w : World} {v : Value} {xs : List ByteArray} (h : StrsAt w v xs) : ∃ A c, v = .slice A xs.length c := by
  obtain ⟨A, c, e, _, _⟩ := h
  exact ⟨A, c, e⟩

set_option maxHeartbeats 1000000 in
theorem SePieces_both (n : Int) (w : World) :
    Calls Tryd.prog 23 #[.string ByteArray.empty, .string ByteArray.empty, .int .i64 n, .bool false] w fun e W' => e = .returned (.slice none 0 0) ∧ w = W' := by
  by_cases h : (n == 0) = true
  · go_enter Tryd.func23, Tryd.ntmps23
    go_wp2
    go_ret
    exact ⟨rfl, rfl⟩
  · have h' : (n == 0) = false := by simpa using h
    clear h
    go_enter Tryd.func23, Tryd.ntmps23
    go_wp2
    go_ret
    exact ⟨rfl, rfl⟩

theorem allP_both (n : Int) : allP ByteArray.empty ByteArray.empty 0 n = [] := by
  unfold allP
  rw [if_pos (show (ByteArray.empty).size = 0 from rfl)]
  have h : (starts ByteArray.empty 0).length = 0 := by rw [starts_end ByteArray.empty 0 (show (ByteArray.empty).size ≤ 0 from Nat.le_refl 0)]; rfl
  have := eN_le ByteArray.empty n
  rw [expl, if_pos (by omega)]

/-- The reference's pieces, whatever the texts. -/
theorem SePieces_all (s sep : ByteArray) (n : Int) (w : World) (hs : s.size < 2147483648) (hp : sep.size < 2147483648) (hn0 : n ≠ 0) (hlo : -9223372036854775807 ≤ n) (hhi : n ≤ 9223372036854775807) :
    Calls Tryd.prog 23 #[.string s, .string sep, .int .i64 n, .bool false] w fun e W' => ∃ v, e = .returned v ∧ StrsAt W' v (allP s sep 0 n) ∧ Below w.heap.size w W' := by
  by_cases hne : 1 ≤ s.size ∨ 1 ≤ sep.size
  · exact SePieces_any s sep n w hs hp hn0 hlo hhi hne
  · rw [emptyS s (by omega), emptyS sep (by omega), allP_both]
    exact (SePieces_both n w).mono fun e w' ⟨he, hw⟩ => ⟨_, he, StrsAt.nil _, hw ▸ Below.refl _ _⟩

set_option maxRecDepth 100000 in
set_option maxHeartbeats 2000000 in
theorem walk_FnStrSplit (s sep : ByteArray) (w : World) (_hs : s.size ≤ maxLen) (_hcs : sep.size ≤ maxLen) (hT : Tabs w) :
    Calls Tryd.prog 5 #[.string s, .string sep] w fun e w' => e = .returned (.bool true) ∧ Below w.heap.size w w' := by
  have HT := Lib.hid hT
  clear hT
  by_cases hbig : 2147483647 < s.size
  · go_enter Tryd.func5, Tryd.ntmps5
    go_wp2
    go_ret
    exact ⟨rfl, Below.refl _ _⟩
  by_cases hbig2 : 2147483647 < sep.size
  · go_enter Tryd.func5, Tryd.ntmps5
    go_wp2
    go_ret
    exact ⟨rfl, Below.refl _ _⟩
  have hs' : s.size < 2147483648 := by omega
  have hp' : sep.size < 2147483648 := by omega
  have hlen := allP_small s sep 0 (-1) (by decide) hs'
  go_enter Tryd.func5, Tryd.ntmps5
  go_wp2_with fail
  refine (StrSplit s sep _ hs' HT.out).mono ?_
  rintro e w1 ⟨v1, rfl, hA, hB1⟩
  have HB1 := Lib.hid hB1
  have HA := Lib.hid hA
  clear hB1 hA
  go_wp2_with fail
  refine (SePieces_all s sep (-1) _ hs' hp' (by decide) (by decide) (by decide)).mono ?_
  rintro e w2 ⟨v2, rfl, hA2, hB2⟩
  have HB2 := bl3 HB1 hB2
  have HAb := Lib.hid (HA.out.below hB2)
  have HA2 := Lib.hid hA2
  clear hB2 hA2 HA
  go_wp2_with fail
  refine (SeSame (allP s sep 0 (-1)) _ _ _ HAb.out HA2.out hlen).mono ?_
  rintro e w3 ⟨rfl, rfl⟩
  go_wp2_with fail
  obtain ⟨ab, hab⟩ : ∃ ab : ByteArray, ab = ⟨#[97, 98]⟩ := ⟨_, rfl⟩
  obtain ⟨bb, hbb⟩ : ∃ bb : ByteArray, bb = ⟨#[98]⟩ := ⟨_, rfl⟩
  rw [← hab, ← hbb]
  refine (StrSplit ab bb _ (by rw [hab]; decide) (HT.out.below HB2.out)).mono ?_
  rintro e w4 ⟨v4, rfl, hA4, hB4⟩
  obtain ⟨A, c, rfl⟩ := hA4.slice
  have HB4 := bl3 HB2 hB4
  rw [hab, hbb, ab_split]
  clear hA4 hB4 hab hbb
  go_wp2_with fail
  go_ret
  exact ⟨rfl, HB4.out⟩
end Go.Proofs.YtblaldahhhokmaaDoor

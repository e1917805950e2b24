/- FnBytSplit: the walk. -/
import Derived.Test.YtpaieadnicmplaaDoorBGen
import Derived.Test.YtpaieadnicmplaaDoorPcsK
set_option linter.unusedVariables false
namespace Go.Proofs.YtpaieadnicmplaaDoor
open Go.RowKit Go.Lib

/-- Two strings turned into bytes, one behind the other. -/
theorem cvBB (w : World) (a b : ByteArray) : ∃ c1 W1 c2 W2, (convert 9 23 (.string a)).run Tryd.prog w = .ok (.slice (some ⟨w.heap.size, 0, none⟩) a.size c1) W1
    ∧ (convert 9 23 (.string b)).run Tryd.prog W1 = .ok (.slice (some ⟨w.heap.size + 1, 0, none⟩) b.size c2) W2
    ∧ Hid (Lib.Bytes W2 w.heap.size 0 a) ∧ Hid (Lib.Bytes W2 (w.heap.size + 1) 0 b) ∧ w.heap.size + 1 < W2.heap.size ∧ Hid (Below w.heap.size w W2) := by
  obtain ⟨c1, W1, k1, C1⟩ := cvB w a
  obtain ⟨c2, W2, k2, C2⟩ := cvB W1 b
  have s1 := C1.size
  have HA := Lib.hid (bytes_below C1.bytes C2.below (by omega))
  have HB := Lib.hid C2.bytes
  have z2 := C2.size
  have bel := Lib.hid (C1.below.trans (C2.below.mono C1.below.size))
  rw [s1] at k2 HB
  exact ⟨c1, W1, c2, W2, k1, k2, HA, HB, by omega, bel⟩
theorem ab_splitB : (nP ⟨#[97, 98]⟩ ⟨#[98]⟩ 0 2).length = 2 := by decide +kernel

set_option maxRecDepth 100000 in
set_option maxHeartbeats 4000000 in
theorem body_FnBytSplit (s sep : ByteArray) (n : Int) (w : World) (hs' : s.size < 2147483648) (hp' : sep.size < 2147483648) (hN : -9223372036854775808 ≤ n ∧ n ≤ 9223372036854775807) (hE : s.toList.isEmpty = false ∨ (s.toList.isEmpty = true ∧ sep.toList.isEmpty = false)) (hT : Tabs w) :
    Calls Tryd.prog 4 #[.string s, .string sep, .int .i64 n] w fun e w' => e = .returned (.bool true) ∧ Below w.heap.size w w' := by
  have HT := Lib.hid hT
  have HN := Lib.hid hN
  have hlen := nP_small s sep 0 n hs'
  have hlenK := nP_small s sep sep.size n hs'
  clear hT hN
  obtain ⟨c1, W1, c2, W2, k1, k2, HA, HB, lt2, bel⟩ := cvBB w s sep
  rcases hE with hE1 | ⟨hE1, hE2⟩
  all_goals
    go_enter Tryd.func4, Tryd.ntmps4
    go_wp2_with fail
    refine (bytSplitN s sep n _ _ _ _ W2 HA.out HB.out (by omega) lt2 hs' hp' HN.out.1 HN.out.2 (HT.out.below bel.out)).mono ?_
    rintro e w1 ⟨v1, rfl, hA, hB1⟩
    have HB1 := bl3 bel hB1
    have HV := Lib.hid hA
    clear hB1 hA bel k1 k2 HA HB lt2
    go_wp2_with fail
    refine (SePieces_n s sep n _ hs' hp' HN.out.1 HN.out.2).mono ?_
    rintro e w2 ⟨v2, rfl, hA2, hB2⟩
    have HB2 := bl3 HB1 hB2
    have HVb := Lib.hid (HV.out.below hB2)
    have HV2 := Lib.hid hA2
    clear hB2 hA2 HV
    go_wp2_with fail
    refine (SeSame (nP s sep 0 n) _ _ _ HVb.out HV2.out hlen).mono ?_
    rintro e w3 ⟨rfl, rfl⟩
    clear HVb HV2 hlen
    obtain ⟨c3, W3, c4, W4, k1, k2, HA, HB, lt2, bel⟩ := cvBB w2 s sep
    go_wp2_with fail
    refine (bytSplitAfterN s sep n _ _ _ _ W4 HA.out HB.out (by omega) lt2 hs' hp' HN.out.1 HN.out.2 (HT.out.below (HB2.out.trans (bel.out.mono HB2.out.size)))).mono ?_
    rintro e w4 ⟨v4, rfl, hA, hB4⟩
    have HB4 := bl3 HB2 (bel.out.trans (hB4.mono bel.out.size))
    have HV := Lib.hid hA
    clear hB4 hA bel k1 k2 HA HB lt2
    go_wp2_with fail
    refine (SePiecesK_n s sep n _ hs' hp' HN.out.1 HN.out.2).mono ?_
    rintro e w5 ⟨v5, rfl, hA5, hB5⟩
    have HB5 := bl3 HB4 hB5
    have HVb := Lib.hid (HV.out.below hB5)
    have HV5 := Lib.hid hA5
    clear hB5 hA5 HV
    go_wp2_with fail
    refine (SeSame (nP s sep sep.size n) _ _ _ HVb.out HV5.out hlenK).mono ?_
    rintro e w6 ⟨rfl, rfl⟩
    have q1 := cvC w5 #[.int .u8 97, .int .u8 98] 2 2 _ rfl
    have q2 := fun fr => cvC (w5.alloc (.cells #[.int .u8 97, .int .u8 98] 5 fr)) #[.int .u8 98] 1 1 (w5.heap.size + 1) (by simp)
    go_wp2_with fail
    obtain ⟨W6, hW6, H1, H2, l4, bel4'⟩ := two_consts w5 ⟨#[97, 98]⟩ ⟨#[98]⟩ #[.int .u8 97, .int .u8 98] #[.int .u8 98] (2, 3) (1, 2) rfl rfl
    rw [← hW6]
    clear hW6 q1 q2
    refine (bytSplitN ⟨#[97, 98]⟩ ⟨#[98]⟩ 2 w5.heap.size 2 (w5.heap.size + 1) 1 W6 H1.out H2.out (by omega) l4 (by decide) (by decide) (by decide) (by decide) (HT.out.below (HB5.out.trans (bel4'.mono HB5.out.size)))).mono ?_
    rintro e w7 ⟨v7, rfl, hA7, hB7⟩
    obtain ⟨A, c, rfl⟩ := hA7.slice
    have HB7 := bl3 HB5 (bel4'.trans (hB7.mono bel4'.size))
    rw [ab_splitB]
    clear hA7 hB7 bel4' H1 H2 l4
    go_wp2_with fail
    go_ret
    exact ⟨rfl, HB7.out⟩

set_option maxRecDepth 100000 in
set_option maxHeartbeats 2000000 in
theorem walk_FnBytSplit (s sep : ByteArray) (n : Int) (w : World) (_hs : s.size ≤ maxLen) (_hcs : sep.size ≤ maxLen) (hnw : (Lit.int .i64 n).wf = true) (hT : Tabs w) :
    Calls Tryd.prog 4 #[.string s, .string sep, .int .i64 n] w fun e w' => e = .returned (.bool true) ∧ Below w.heap.size w w' := by
  by_cases hbig : 2147483647 < s.size
  · clear hT hnw
    go_enter Tryd.func4, Tryd.ntmps4
    go_wp2
    go_ret
    exact ⟨rfl, Below.refl _ _⟩
  by_cases hbig2 : 2147483647 < sep.size
  · clear hT hnw
    go_enter Tryd.func4, Tryd.ntmps4
    go_wp2
    go_ret
    exact ⟨rfl, Below.refl _ _⟩
  by_cases h1 : 1 ≤ s.size
  · exact body_FnBytSplit s sep n w (by omega) (by omega) (bounds_i64 hnw) (.inl (neS h1)) hT
  · by_cases h2 : 1 ≤ sep.size
    · refine body_FnBytSplit s sep n w (by omega) (by omega) (bounds_i64 hnw) ?_ hT
      cases hc : s.toList.isEmpty with
      | false => exact .inl rfl
      | true => exact .inr ⟨rfl, neS h2⟩
    · rw [emptyS s (by omega), emptyS sep (by omega)]
      clear hT hnw
      go_enter Tryd.func4, Tryd.ntmps4
      go_wp2
      go_ret
      exact ⟨rfl, Below.refl _ _⟩
end Go.Proofs.YtpaieadnicmplaaDoor

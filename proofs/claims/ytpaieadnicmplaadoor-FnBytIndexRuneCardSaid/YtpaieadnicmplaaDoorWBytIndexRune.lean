/- FnBytIndexRune: the walk. -/
import Derived.Test.YtpaieadnicmplaaDoorBIRm
set_option linter.unusedVariables false
namespace Go.Proofs.YtpaieadnicmplaaDoor
open Go.RowKit Go.Lib

/-- gobytes.IndexRune: the first place where the code point stands. -/
theorem gbIndexRune (s : ByteArray) (r : Int) (g c1 : Nat) (w : World) (hB : Lib.Bytes w g 0 s) (hg : g < w.heap.size) (hcap : s.size ≤ c1) (hs : s.size < 2147483648) (hT : Tabs w) :
    Calls Tryd.prog 21 #[.slice (some ⟨g, 0, none⟩) s.size c1, .int .i32 r] w fun e w' => e = .returned (.int .i64 (fP s (isR r) (starts s 0))) ∧ Below w.heap.size w w' := by
  by_cases ha : 0 ≤ r ∧ r < 128
  · exact gbIndexRune_ascii s r g c1 w hB (by omega) ha.1 ha.2
  · by_cases hf : r = 65533
    · subst hf; exact gbIndexRune_err s g c1 w hB hg hcap hs hT
    · have hf' : (r == 65533) = false := by simpa using hf
      cases hv : Utf8.valid r with
      | false => exact gbIndexRune_bad s r g c1 w hv hf'
      | true =>
        have hv2 := (valid_iff r).1 hv
        obtain ⟨r', rfl⟩ : ∃ r' : Nat, r = r' := ⟨r.toNat, by omega⟩
        obtain ⟨h2, h4, _⟩ := encode_facts (r' : Int) hv (by omega)
        exact gbIndexRune_main s (Utf8.encode (r' : Int)) r' g c1 w hB hg hcap (by omega) rfl hv2 (by omega) hf' ((Utf8.encode (r' : Int)).size - 1) (by omega) (by omega) (by omega)
          (fun k => fP_occ_hit s (r' : Int) hv (by omega) hf k) (fP_occ_miss s (r' : Int) hv (by omega) hf)

set_option maxHeartbeats 1000000 in
theorem BytIndexRune (s : ByteArray) (r : Int) (g c1 : Nat) (w : World) (hB : Lib.Bytes w g 0 s) (hs : s.size < 2147483648) (hT : Tabs w) :
    Calls Tryd.prog 6 #[.slice (some ⟨g, 0, none⟩) s.size c1, .int .i32 r] w fun e w' => e = .returned (.int .i64 (fP s (isR r) (starts s 0))) ∧ Below w.heap.size w w' := by
  have HC := Lib.hid (CloneB s g 0 c1 w (by omega) (Lib.hid hB))
  have HT := Lib.hid hT
  clear hB hT
  go_enter Tryd.func6, Tryd.ntmps6
  go_wp2_with fail
  refine HC.out.mono ?_
  rintro e w1 ⟨b1, k1, rfl, hb1, hlt1, hk1, hBy1, hB1⟩
  have HBy1 := Lib.hid hBy1
  have HB1 := Lib.hid hB1
  clear hBy1 hB1
  go_wp2_with fail
  refine (gbIndexRune s r b1 k1 w1 HBy1.out hlt1 hk1 hs (HT.out.below HB1.out)).mono ?_
  rintro e w2 ⟨rfl, hB2⟩
  have HB2 := bl3 HB1 hB2
  clear hB2
  go_wp2_with fail
  go_ret
  exact ⟨rfl, HB2.out⟩

set_option maxHeartbeats 1000000 in
theorem BytContainsRune (s : ByteArray) (r : Int) (g c1 : Nat) (w : World) (hB : Lib.Bytes w g 0 s) (hs : s.size < 2147483648) (hT : Tabs w) :
    Calls Tryd.prog 8 #[.slice (some ⟨g, 0, none⟩) s.size c1, .int .i32 r] w fun e w' => e = .returned (.bool (decide (0 ≤ fP s (isR r) (starts s 0)))) ∧ Below w.heap.size w w' := by
  have HC := Lib.hid (CloneB s g 0 c1 w (by omega) (Lib.hid hB))
  have HT := Lib.hid hT
  clear hB hT
  go_enter Tryd.func8, Tryd.ntmps8
  go_wp2_with fail
  refine HC.out.mono ?_
  rintro e w1 ⟨b1, k1, rfl, hb1, hlt1, hk1, hBy1, hB1⟩
  have HBy1 := Lib.hid hBy1
  have HB1 := Lib.hid hB1
  clear hBy1 hB1
  go_wp2_with (go_at_call 24; go_in)
  refine (gbIndexRune s r b1 k1 w1 HBy1.out hlt1 hk1 hs (HT.out.below HB1.out)).mono ?_
  rintro e w2 ⟨rfl, hB2⟩
  have HB2 := bl3 HB1 hB2
  clear hB2
  go_wp2_with fail
  go_ret
  exact ⟨rfl, HB2.out⟩

theorem StrIndexRuneB (s : ByteArray) (r : Int) (w : World) (hs : s.size < 4294967281) :
    Calls Tryd.prog 7 #[.string s, .int .i32 r] w fun e w' => e = .returned (.int .i64 (fP s (isR r) (starts s 0))) ∧ Below w.heap.size w w' := by
  go_enter Tryd.func7, Tryd.ntmps7
  go_wp2_with fail
  refine (gIndexRune s r _ hs).mono ?_
  rintro e w' ⟨rfl, hB⟩
  go_wp2_with fail
  go_ret
  exact ⟨rfl, hB⟩

theorem StrContainsRuneB (s : ByteArray) (r : Int) (w : World) (hs : s.size < 4294967281) :
    Calls Tryd.prog 9 #[.string s, .int .i32 r] w fun e w' => e = .returned (.bool (decide (0 ≤ fP s (isR r) (starts s 0)))) ∧ Below w.heap.size w w' := by
  go_enter Tryd.func9, Tryd.ntmps9
  go_wp2_with (go_at_call 25; go_in)
  refine (gIndexRune s r _ hs).mono ?_
  rintro e w' ⟨rfl, hB⟩
  go_wp2_with fail
  go_ret
  exact ⟨rfl, hB⟩

set_option maxRecDepth 100000 in
set_option maxHeartbeats 2000000 in
theorem walk_FnBytIndexRune (s : ByteArray) (r : Int) (w : World) (_hs : s.size ≤ maxLen) (_hr : (Lit.int .i32 r).wf = true) (hT : Tabs w) :
    Calls Tryd.prog 3 #[.string s, .int .i32 r] w fun e w' => e = .returned (.bool true) ∧ Below w.heap.size w w' := by
  by_cases hbig : 2147483647 < s.size
  · clear hT
    go_enter Tryd.func3, Tryd.ntmps3
    go_wp2
    go_ret
    exact ⟨rfl, Below.refl _ _⟩
  · have hs' : s.size < 2147483648 := by omega
    have HT := Lib.hid hT
    clear hT _hr
    obtain ⟨F, hF⟩ : ∃ F, F = fP s (isR r) (starts s 0) := ⟨_, rfl⟩
    have HF := Lib.hid hF
    clear hF
    obtain ⟨c1, W1, k1, C1⟩ := cvB w s
    go_enter Tryd.func3, Tryd.ntmps3
    go_wp2_with fail
    refine (BytIndexRune s r _ c1 W1 C1.bytes hs' (HT.out.below C1.below)).mono ?_
    rintro e w1 ⟨rfl, hB1⟩
    rw [← HF.out]
    have HB1 := Lib.hid (C1.below.trans (hB1.mono C1.below.size))
    clear hB1 k1 C1
    go_wp2_with fail
    refine (StrIndexRuneB s r _ (by omega)).mono ?_
    rintro e w2 ⟨rfl, hB2⟩
    rw [← HF.out]
    have HB2 := bl3 HB1 hB2
    clear hB2
    obtain ⟨c3, W3, k3, C3⟩ := cvB w2 s
    go_wp2_with fail
    refine (BytContainsRune s r _ c3 W3 C3.bytes hs' (HT.out.below (HB2.out.trans (C3.below.mono HB2.out.size)))).mono ?_
    rintro e w4 ⟨rfl, hB4⟩
    rw [← HF.out]
    have HB4 := bl3 HB2 (C3.below.trans (hB4.mono C3.below.size))
    clear hB4 k3 C3
    go_wp2_with fail
    refine (StrContainsRuneB s r _ (by omega)).mono ?_
    rintro e w5 ⟨rfl, hB5⟩
    rw [← HF.out]
    have HB5 := bl3 HB4 hB5
    clear hB5
    have q1 := cvC w5 #[.int .u8 97, .int .u8 98] 2 2 _ rfl
    go_wp2_with fail
    have hbc := bytes_const w5 ⟨#[97, 98]⟩ (2, 3) #[.int .u8 97, .int .u8 98] rfl
    have hbl : Below w5.heap.size w5 (w5.alloc (.cells #[.int .u8 97, .int .u8 98] 5 (2, 3))) := (Below.refl _ w5).alloc (Nat.le_refl _) _
    refine (BytIndexRune ⟨#[97, 98]⟩ 98 w5.heap.size 2 _ hbc (by decide) (HT.out.below (HB5.out.trans (hbl.mono HB5.out.size)))).mono ?_
    rintro e w6 ⟨rfl, hB6⟩
    rw [ab_rune]
    have HB6 := bl3 HB5 (hbl.trans (hB6.mono hbl.size))
    clear hB6 hbc hbl q1
    go_wp2_with fail
    go_ret
    exact ⟨rfl, HB6.out⟩
end Go.Proofs.YtpaieadnicmplaaDoor

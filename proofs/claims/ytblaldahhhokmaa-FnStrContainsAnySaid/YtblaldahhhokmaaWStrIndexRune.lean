/- FnStrIndexRune: the walk. -/
import Derived.Test.YtblaldahhhokmaaIRm
set_option linter.unusedVariables false
namespace Go.Proofs.Ytblaldahhhokmaa
open Go.RowKit Go.Lib

/-- gostrings.IndexRune: the first place where the code point stands. -/
theorem gIndexRune (s : ByteArray) (r : Int) (w : World) (hs : s.size < 4294967281) :
    Calls Try.prog 13 #[.string s, .int .i32 r] w fun e w' => e = .returned (.int .i64 (fP s (isR r) (starts s 0))) ∧ Below w.heap.size w w' := by
  by_cases ha : 0 ≤ r ∧ r < 128
  · exact gIndexRune_ascii s r w hs ha.1 ha.2
  · by_cases hf : r = 65533
    · subst hf; exact gIndexRune_err s w hs
    · have hf' : (r == 65533) = false := by simpa using hf
      cases hv : Utf8.valid r with
      | false => exact gIndexRune_bad s r w hs hv hf'
      | true =>
        have hv2 := (valid_iff r).1 hv
        obtain ⟨h2, h4, _⟩ := encode_facts r hv (by omega)
        exact gIndexRune_main s (Utf8.encode r) r w hs rfl hv2 (by omega) hf' ((Utf8.encode r).size - 1) (by omega) (by omega) (by omega)
          (fun k => fP_occ_hit s r hv (by omega) hf k) (fP_occ_miss s r hv (by omega) hf)

theorem StrIndexRune (s : ByteArray) (r : Int) (w : World) (hs : s.size < 4294967281) :
    Calls Try.prog 8 #[.string s, .int .i32 r] w fun e w' => e = .returned (.int .i64 (fP s (isR r) (starts s 0))) ∧ Below w.heap.size w w' := by
  go_enter Try.func8, Try.ntmps8
  go_wp2_with fail
  refine (gIndexRune s r _ hs).mono ?_
  rintro e w' ⟨rfl, hB⟩
  go_wp2_with fail
  go_ret
  exact ⟨rfl, hB⟩

theorem fP_neg (s : ByteArray) (p : Nat → Bool) : ∀ l : List Nat, fP s p l = -1 ∨ ∃ a : Nat, fP s p l = a
  | [] => .inl rfl
  | a :: l => by
    rw [fP_cons]
    split
    · exact .inr ⟨a, rfl⟩
    · exact fP_neg s p l
theorem fP_snoc (s : ByteArray) (p : Nat → Bool) (a : Nat) : ∀ l : List Nat, fP s p (l ++ [a]) = if fP s p l < 0 then (if p (Utf8.decode s a).1 then (a : Int) else -1) else fP s p l
  | [] => by simp [fP]
  | b :: l => by
    rw [List.cons_append, fP_cons, fP_cons, fP_snoc s p a l]
    by_cases h : p (Utf8.decode s b).1 = true
    · rw [if_pos h, if_pos h, if_neg (by omega)]
    · rw [if_neg h, if_neg h]
theorem take_snoc' {l : List Nat} {k a : Nat} (h : l[k]? = some a) : l.take (k + 1) = l.take k ++ [a] := by
  rw [List.take_add_one, h]; rfl

theorem ab_rune : fP ⟨#[97, 98]⟩ (isR 98) (starts ⟨#[97, 98]⟩ 0) = 1 := by
  rw [fP_ascii _ _ (by decide) (by decide)]; decide

set_option maxRecDepth 100000 in
set_option maxHeartbeats 2000000 in
theorem walk_FnStrIndexRune (s : ByteArray) (r : Int) (w : World) (_hs : s.size ≤ maxLen) (hr : (Lit.int .i32 r).wf = true) :
    Calls Try.prog 3 #[.string s, .int .i32 r] w fun e w' => e = .returned (.bool true) ∧ Below w.heap.size w w' := by
  by_cases hbig : 2147483647 < s.size
  · go_enter Try.func3, Try.ntmps3
    go_wp2
    go_ret
    exact ⟨rfl, Below.refl _ _⟩
  · have hs' : s.size < 4294967281 := by omega
    by_cases hf : r = 65533
    · subst hf
      go_enter Try.func3, Try.ntmps3
      go_wp2
      go_ret
      exact ⟨rfl, Below.refl _ _⟩
    · have hf' : (r == 65533) = false := by simpa using hf
      have hlen := starts_len s s.size 0 (by omega)
      have Hmem : Hid (∀ x ∈ starts s 0, 0 ≤ x ∧ x < s.size) := starts_mem s s.size 0 (by omega)
      clear hf
      go_enter Try.func3, Try.ntmps3
      go_wp2_with fail
      refine (SeStarts s _ hs').mono ?_
      rintro e w1 ⟨v, rfl, hI, hB1⟩
      obtain ⟨A, c, rfl, hc, hx⟩ := hI
      obtain ⟨xs, hxs⟩ : ∃ xs, xs = starts s 0 := ⟨_, rfl⟩
      rw [← hxs] at hlen Hmem hc hx ⊢
      have HX := Lib.hid hx
      have HB1 := Lib.hid hB1
      have HXS := Lib.hid hxs
      clear hx hB1 hxs
      go_wp2_with fail
      go_loopg [5, 18] xs.length (fun g at' iv wx => ∃ k : Nat, k ≤ xs.length ∧ xs.length ≤ k + g ∧ iv = .int .i64 k ∧ at' = .int .i64 (fP s (isR r) (xs.take k)) ∧ w1 = wx)
      case atStart => exact ⟨0, Nat.zero_le _, by omega, rfl, rfl, rfl⟩
      case round =>
        obtain ⟨k, hk, hg, rfl, rfl, rfl⟩ := hrel
        by_cases hlt : k < xs.length
        · obtain ⟨u, hu⟩ : ∃ u, xs[k]? = some u := ⟨xs[k], List.getElem?_eq_getElem hlt⟩
          obtain ⟨g, o, rfl, hg', hcell⟩ := HX.out (by rintro rfl; simp at hlt)
          have hcu := hcell k u hu
          have hus := (Hmem.out u (List.mem_of_getElem? hu)).2
          have hsn : Hid (fP s (isR r) (xs.take (k + 1)) = _) := (congrArg (fP s (isR r)) (take_snoc' hu)).trans (fP_snoc s (isR r) u (xs.take k))
          have hor := fP_neg s (isR r) (xs.take k)
          obtain ⟨F, hF⟩ : ∃ F, F = fP s (isR r) (xs.take k) := ⟨_, rfl⟩
          rw [← hF] at hsn hor ⊢
          have HF := Lib.hid hF
          clear hcell hu hF
          obtain ⟨R, hR⟩ : ∃ R : Nat, (Utf8.decode s u).1 = R := ⟨_, rfl⟩
          have cR := SeRune s u w1 hs' hus
          rw [hR] at cR hsn
          clear hR
          by_cases hq : (R : Int) = r
          · have hb : ((R : Int) == r) = true := by simpa using hq
            have HQ := Lib.hid hq
            clear hq
            rcases hor with hor | ⟨a, hor⟩
            · have hd : F < 0 := by omega
              have HO := Lib.hid hor
              clear hor
              go_wp2_with (go_at_call 7; refine cR.mono ?_; rintro e w' ⟨rfl, rfl⟩)
              go_roundg (gk - 1)
              case measure => omega
              case rel => exact ⟨k + 1, by omega, by omega, by go_num, by rw [hsn.out, if_pos hd, if_pos ((isR_iff _ _).2 HQ.out)], rfl⟩
            · have hd : ¬ F < 0 := by omega
              have HO := Lib.hid hor
              clear hor
              go_wp2_with (go_at_call 7; refine cR.mono ?_; rintro e w' ⟨rfl, rfl⟩)
              go_roundg (gk - 1)
              case measure => omega
              case rel => exact ⟨k + 1, by omega, by omega, by go_num, by rw [hsn.out, if_neg (by omega)], rfl⟩
          · have hb : ((R : Int) == r) = false := by simpa using hq
            have HQ : Hid (fP s (isR r) (xs.take (k + 1)) = F) := by
              have hno : isR r R = false := by rw [Bool.eq_false_iff]; exact fun h => hq ((isR_iff _ _).1 h)
              refine hsn.out.trans ?_
              rw [hno]
              rcases hor with hor | ⟨a, hor⟩
              · rw [if_pos (by omega), hor]; rfl
              · rw [if_neg (by omega)]
            clear hq hor
            go_wp2_with (go_at_call 7; refine cR.mono ?_; rintro e w' ⟨rfl, rfl⟩)
            go_roundg (gk - 1)
            case measure => omega
            case rel => exact ⟨k + 1, by omega, by omega, by go_num, by rw [HQ.out], rfl⟩
        · obtain rfl : k = xs.length := by omega
          rw [List.take_length]
          go_wp2_with fail
          refine (StrIndexRune s r _ hs').mono ?_
          rintro e w2 ⟨rfl, hB2⟩
          rw [← HXS.out]
          have HB2 := Lib.hid hB2
          clear hB2
          go_wp2_with fail
          obtain ⟨ab, hab⟩ : ∃ ab : ByteArray, ab = ⟨#[97, 98]⟩ := ⟨_, rfl⟩
          rw [← hab]
          refine (StrIndexRune ab 98 _ (by rw [hab]; decide)).mono ?_
          rintro e w4 ⟨rfl, hB4⟩
          rw [hab, ab_rune]
          have hs1 := HB1.out.size
          have hB := HB1.out.trans (HB2.out.mono hs1)
          have HB := Lib.hid (hB.trans (hB4.mono hB.size))
          clear hB hB4 hab
          go_wp2_with fail
          go_ret
          exact ⟨rfl, HB.out⟩
end Go.Proofs.Ytblaldahhhokmaa

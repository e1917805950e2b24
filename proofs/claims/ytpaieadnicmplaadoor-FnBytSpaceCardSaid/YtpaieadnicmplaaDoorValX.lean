/- The reference's SeValid, its exact value. -/
import Derived.Test.YtpaieadnicmplaaDoorAnyB
import Derived.Lib.FieldsLaws
set_option linter.unusedVariables false
namespace Go.Proofs.YtpaieadnicmplaaDoor
open Go.RowKit Go.Lib

/-- At u no code point stands. -/
def badAt (s : ByteArray) (u : Nat) : Bool := ((Utf8.decode s u).1 : Int) == 65533 && ((Utf8.decode s u).2 : Int) == 1
def valS (s : ByteArray) : Bool := !(starts s 0).any (badAt s)

set_option maxRecDepth 100000 in
set_option maxHeartbeats 2000000 in
theorem SeValidX (s : ByteArray) (w : World) (hs : s.size < 4294967281) :
    Calls Tryd.prog 14 #[.string s] w fun e w' => e = .returned (.bool (valS s)) ∧ Below w.heap.size w w' := by
  unfold valS
  have hlen := starts_len s s.size 0 (by omega)
  have Hmem : Hid (∀ x ∈ starts s 0, 0 ≤ x ∧ x < s.size) := starts_mem s s.size 0 (by omega)
  go_enter Tryd.func14, Tryd.ntmps14
  go_wp2_with fail
  refine (SeStarts s _ hs).mono ?_
  rintro e w1 ⟨v, rfl, hI, hB1⟩
  obtain ⟨A, cp, rfl, hc, hx⟩ := hI
  obtain ⟨xs, hxs⟩ : ∃ xs, xs = starts s 0 := ⟨_, rfl⟩
  rw [← hxs] at hlen Hmem hc hx ⊢
  have HX := Lib.hid hx
  have HB1 := Lib.hid hB1
  have HXS := Lib.hid hxs
  clear hx hB1 hxs
  go_wp2_with fail
  go_loopg [10] xs.length (fun g iv wx => ∃ k : Nat, k ≤ xs.length ∧ xs.length ≤ k + g ∧ iv = .int .i64 k ∧ w1 = wx ∧ Hid (xs.any (badAt s) = (xs.drop k).any (badAt s)))
  case atStart => exact ⟨0, Nat.zero_le _, by omega, rfl, rfl, rfl⟩
  case round =>
    obtain ⟨k, hk, hg, rfl, rfl, HA⟩ := hrel
    by_cases hlt : k < xs.length
    · obtain ⟨u, hu⟩ : ∃ u, xs[k]? = some u := ⟨xs[k], List.getElem?_eq_getElem hlt⟩
      obtain ⟨g, o, rfl, hg', hcell⟩ := HX.out (by rintro rfl; simp at hlt)
      have hcu := hcell k u hu
      have hus := (Hmem.out u (List.mem_of_getElem? hu)).2
      have cR := SeRune s u w1 hs hus
      have hdr := Lib.drop_at hu
      have HA' : xs.any (badAt s) = (badAt s u || (xs.drop (k + 1)).any (badAt s)) := by rw [HA.out, hdr, List.any_cons]
      have hbad : badAt s u = (((Utf8.decode s u).1 : Int) == 65533 && ((Utf8.decode s u).2 : Int) == 1) := rfl
      obtain ⟨R, hR⟩ : ∃ R : Nat, (Utf8.decode s u).1 = R := ⟨_, rfl⟩
      obtain ⟨K, hK⟩ : ∃ K : Nat, (Utf8.decode s u).2 = K := ⟨_, rfl⟩
      rw [hR, hK] at cR hbad
      rw [hbad] at HA'
      clear hcell hu hR hK hdr hbad
      cases h6 : ((R : Int) == 65533) with
      | false =>
        have HN : Hid (xs.any (badAt s) = (xs.drop (k + 1)).any (badAt s)) := by rw [h6, Bool.false_and, Bool.false_or] at HA'; exact HA'
        clear HA'
        go_wp2_with (go_at_call 30; refine cR.mono ?_; rintro e w' ⟨rfl, rfl⟩)
        go_roundg (gk - 1)
        case measure => omega
        case rel => exact ⟨k + 1, by omega, by omega, by go_num, rfl, HN⟩
      | true =>
        cases h7 : ((K : Int) == 1) with
        | false =>
          have HN : Hid (xs.any (badAt s) = (xs.drop (k + 1)).any (badAt s)) := by rw [h6, h7, Bool.and_false, Bool.false_or] at HA'; exact HA'
          clear HA'
          go_wp2_with (go_at_call 30; refine cR.mono ?_; rintro e w' ⟨rfl, rfl⟩)
          go_roundg (gk - 1)
          case measure => omega
          case rel => exact ⟨k + 1, by omega, by omega, by go_num, rfl, HN⟩
        | true =>
          have HN : Hid (xs.any (badAt s) = true) := by rw [h6, h7, Bool.and_self, Bool.true_or] at HA'; exact HA'
          clear HA'
          go_wp2_with (go_at_call 30; refine cR.mono ?_; rintro e w' ⟨rfl, rfl⟩)
          go_ret
          exact ⟨by rw [← HXS.out, HN.out]; rfl, HB1.out⟩
    · have HN : Hid (xs.any (badAt s) = false) := by
        have := HA.out
        rw [List.drop_eq_nil_of_le (by omega)] at this
        exact this
      go_wp2_with fail
      go_ret
      exact ⟨by rw [← HXS.out, HN.out]; rfl, HB1.out⟩
end Go.Proofs.YtpaieadnicmplaaDoor

/- gostrings.IndexAny; the reference's SeHas, SeFirstOf, SeValid. -/
import Derived.Test.YtpaieadnicmplaaDoorIR
set_option linter.unusedVariables false
namespace Go.Proofs.YtpaieadnicmplaaDoor
open Go.RowKit Go.Lib

theorem drop_cons' {l : List Nat} {k a : Nat} (h : l[k]? = some a) : l.drop k = a :: l.drop (k + 1) := by
  obtain ⟨hk, e⟩ := List.getElem?_eq_some_iff.1 h
  rw [List.drop_eq_getElem_cons hk, e]

set_option maxRecDepth 100000 in
set_option maxHeartbeats 2000000 in
theorem SeHas (chars : ByteArray) (c : Nat) (w : World) (hs : chars.size < 4294967281) :
    Calls Tryd.prog 48 #[.string chars, .int .i32 (c : Int)] w fun e w' => e = .returned (.bool (hasR chars c)) ∧ Below w.heap.size w w' := by
  have hlen := starts_len chars chars.size 0 (by omega)
  have Hmem : Hid (∀ x ∈ starts chars 0, 0 ≤ x ∧ x < chars.size) := starts_mem chars chars.size 0 (by omega)
  have HR : Hid (hasR chars c = decide (0 ≤ fP chars (isR c) (starts chars 0))) := rfl
  obtain ⟨B, hBd⟩ : ∃ B, B = hasR chars c := ⟨_, rfl⟩
  rw [← hBd] at HR ⊢
  clear hBd
  go_enter Tryd.func48, Tryd.ntmps48
  go_wp2_with fail
  refine (SeStarts chars _ hs).mono ?_
  rintro e w1 ⟨v, rfl, hI, hB1⟩
  obtain ⟨A, cp, rfl, hc, hx⟩ := hI
  obtain ⟨xs, hxs⟩ : ∃ xs, xs = starts chars 0 := ⟨_, rfl⟩
  rw [← hxs] at hlen Hmem hc hx HR ⊢
  have HX := Lib.hid hx
  have HB1 := Lib.hid hB1
  clear hx hB1 hxs
  go_wp2_with fail
  go_loopg [12] xs.length (fun g iv wx => ∃ k : Nat, k ≤ xs.length ∧ xs.length ≤ k + g ∧ iv = .int .i64 k ∧ Hid (fP chars (isR c) (xs.drop k) = fP chars (isR c) xs) ∧ w1 = wx)
  case atStart => exact ⟨0, Nat.zero_le _, by omega, rfl, rfl, rfl⟩
  case round =>
    obtain ⟨k, hk, hg, rfl, HF, rfl⟩ := hrel
    by_cases hlt : k < xs.length
    · obtain ⟨u, hu⟩ : ∃ u, xs[k]? = some u := ⟨xs[k], List.getElem?_eq_getElem hlt⟩
      obtain ⟨g, o, rfl, hg', hcell⟩ := HX.out (by rintro rfl; simp at hlt)
      have hcu := hcell k u hu
      have hus := (Hmem.out u (List.mem_of_getElem? hu)).2
      have hF := HF.out
      rw [drop_cons' hu, fP_cons] at hF
      have cR := SeRune chars u w1 hs hus
      obtain ⟨R, hR⟩ : ∃ R : Nat, (Utf8.decode chars u).1 = R := ⟨_, rfl⟩
      rw [hR] at cR hF
      clear hcell hu hR
      by_cases hq : (R : Int) = c
      · have hb : ((R : Int) == (c : Int)) = true := by simpa using hq
        rw [if_pos ((isR_iff _ _).2 hq)] at hF
        have HT : Hid (B = true) := by rw [HR.out, ← hF]; exact decide_eq_true (by omega)
        clear hq hF
        go_wp2_with (go_at_call 30; refine cR.mono ?_; rintro e w' ⟨rfl, rfl⟩)
        go_ret
        exact ⟨ret_bool HT.out.symm, HB1.out⟩
      · have hb : ((R : Int) == (c : Int)) = false := by simpa using hq
        rw [if_neg (fun h => hq ((isR_iff _ _).1 h))] at hF
        have HF' := Lib.hid hF
        clear hq hF
        go_wp2_with (go_at_call 30; refine cR.mono ?_; rintro e w' ⟨rfl, rfl⟩)
        go_roundg (gk - 1)
        case measure => omega
        case rel => exact ⟨k + 1, by omega, by omega, by go_num, HF', rfl⟩
    · have hF := HF.out
      rw [List.drop_eq_nil_of_le (by omega)] at hF
      have HT : Hid (B = false) := by rw [HR.out, ← hF]; rfl
      clear hF
      go_wp2_with fail
      go_ret
      exact ⟨ret_bool HT.out.symm, HB1.out⟩

set_option maxRecDepth 100000 in
set_option maxHeartbeats 2000000 in
theorem SeFirstOf (s chars : ByteArray) (has : Bool) (w : World) (hs : s.size < 4294967281) (hcs : chars.size < 4294967281) :
    Calls Tryd.prog 33 #[.string s, .string chars, .bool has] w fun e w' => e = .returned (.int .i64 (fP s (fun c => hasR chars c == has) (starts s 0))) ∧ Below w.heap.size w w' := by
  have hlen := starts_len s s.size 0 (by omega)
  have Hmem : Hid (∀ x ∈ starts s 0, 0 ≤ x ∧ x < s.size) := starts_mem s s.size 0 (by omega)
  obtain ⟨p, hp⟩ : ∃ p : Nat → Bool, p = fun c => hasR chars c == has := ⟨_, rfl⟩
  rw [← hp]
  have HP := Lib.hid hp
  clear hp
  go_enter Tryd.func33, Tryd.ntmps33
  go_wp2_with fail
  refine (SeStarts s _ hs).mono ?_
  rintro e w1 ⟨v, rfl, hI, hB1⟩
  obtain ⟨A, cp, rfl, hc, hx⟩ := hI
  obtain ⟨xs, hxs⟩ : ∃ xs, xs = starts s 0 := ⟨_, rfl⟩
  rw [← hxs] at hlen Hmem hc hx ⊢
  have HX := Lib.hid hx
  have HB1 := Lib.hid hB1
  have HXS := Lib.hid hxs
  clear hx hB1 hxs
  go_wp2_with fail
  go_loopg [14] xs.length (fun g iv wx => ∃ k : Nat, k ≤ xs.length ∧ xs.length ≤ k + g ∧ iv = .int .i64 k ∧ Hid (fP s p (xs.drop k) = fP s p xs) ∧ Hid (Below w1.heap.size w1 wx))
  case atStart => exact ⟨0, Nat.zero_le _, by omega, rfl, rfl, Below.refl _ _⟩
  case round =>
    obtain ⟨k, hk, hg, rfl, HF, HBx⟩ := hrel
    by_cases hlt : k < xs.length
    · obtain ⟨u, hu⟩ : ∃ u, xs[k]? = some u := ⟨xs[k], List.getElem?_eq_getElem hlt⟩
      obtain ⟨g, o, rfl, hg', hcell⟩ := HX.out (by rintro rfl; simp at hlt)
      have hcu : wr.cell? ⟨g, o + k, none⟩ = some (.int .i64 (u : Int)) := (HBx.out.cell (p := ⟨g, o + k, none⟩) hg').trans (hcell k u hu)
      have hus := (Hmem.out u (List.mem_of_getElem? hu)).2
      have hF := HF.out
      rw [drop_cons' hu, fP_cons] at hF
      have cR := SeRune s u wr hs hus
      obtain ⟨R, hR⟩ : ∃ R : Nat, (Utf8.decode s u).1 = R := ⟨_, rfl⟩
      rw [hR] at cR hF
      have cH := SeHas chars R wr hcs
      obtain ⟨b, hbd⟩ : ∃ b, b = hasR chars R := ⟨_, rfl⟩
      have hpR : p R = (b == has) := by rw [HP.out, hbd]
      rw [hpR] at hF
      rw [← hbd] at cH
      clear hcell hu hR hbd hpR
      have hsz := HBx.out.size
      cases hq : (b == has) with
      | true =>
        rw [hq, if_pos rfl] at hF
        have HF' := Lib.hid hF
        clear hF
        go_wp2_with (first | (go_at_call 30; refine cR.mono ?_; rintro e w' ⟨rfl, rfl⟩) | (go_at_call 48; refine cH.mono ?_; rintro e w' ⟨rfl, hB2⟩; have HB2 := Lib.hid hB2; clear hB2))
        go_ret
        exact ⟨ret_int (HF'.out.trans (congrArg _ HXS.out)), HB1.out.trans ((HBx.out.trans (HB2.out.mono hsz)).mono HB1.out.size)⟩
      | false =>
        rw [hq, if_neg (by decide)] at hF
        have HF' := Lib.hid hF
        clear hF
        go_wp2_with (first | (go_at_call 30; refine cR.mono ?_; rintro e w' ⟨rfl, rfl⟩) | (go_at_call 48; refine cH.mono ?_; rintro e w' ⟨rfl, hB2⟩; have HB2 := Lib.hid hB2; clear hB2))
        go_roundg (gk - 1)
        case measure => omega
        case rel => exact ⟨k + 1, by omega, by omega, by go_num, HF', HBx.out.trans (HB2.out.mono hsz)⟩
    · have hF := HF.out
      rw [List.drop_eq_nil_of_le (by omega)] at hF
      have HF' := Lib.hid hF
      clear hF
      go_wp2_with fail
      go_ret
      exact ⟨ret_int (HF'.out.trans (congrArg _ HXS.out)), HB1.out.trans (HBx.out.mono HB1.out.size)⟩

/-- Some bool, as the text is UTF-8 or not. -/
def SomeB (w : World) (e : Ending) (w' : World) : Prop := ∃ b, e = .returned (.bool b) ∧ Below w.heap.size w w'

set_option maxRecDepth 100000 in
set_option maxHeartbeats 2000000 in
theorem SeValid (s : ByteArray) (w : World) (hs : s.size < 4294967281) :
    Calls Tryd.prog 14 #[.string s] w (SomeB w) := by
  have hlen := starts_len s s.size 0 (by omega)
  have Hmem : Hid (∀ x ∈ starts s 0, 0 ≤ x ∧ x < s.size) := starts_mem s s.size 0 (by omega)
  go_enter Tryd.func14, Tryd.ntmps14
  go_wp2_with fail
  refine (SeStarts s _ hs).mono ?_
  rintro e w1 ⟨v, rfl, hI, hB1⟩
  obtain ⟨A, cp, rfl, hc, hx⟩ := hI
  obtain ⟨xs, hxs⟩ : ∃ xs, xs = starts s 0 := ⟨_, rfl⟩
  rw [← hxs] at hlen Hmem hc hx ⊢
  have HX := Lib.hid hx
  have HB1 := Lib.hid hB1
  clear hx hB1 hxs
  go_wp2_with fail
  go_loopg [10] xs.length (fun g iv wx => ∃ k : Nat, k ≤ xs.length ∧ xs.length ≤ k + g ∧ iv = .int .i64 k ∧ w1 = wx)
  case atStart => exact ⟨0, Nat.zero_le _, by omega, rfl, rfl⟩
  case round =>
    obtain ⟨k, hk, hg, rfl, rfl⟩ := hrel
    by_cases hlt : k < xs.length
    · obtain ⟨u, hu⟩ : ∃ u, xs[k]? = some u := ⟨xs[k], List.getElem?_eq_getElem hlt⟩
      obtain ⟨g, o, rfl, hg', hcell⟩ := HX.out (by rintro rfl; simp at hlt)
      have hcu := hcell k u hu
      have hus := (Hmem.out u (List.mem_of_getElem? hu)).2
      have cR := SeRune s u w1 hs hus
      obtain ⟨R, hR⟩ : ∃ R : Nat, (Utf8.decode s u).1 = R := ⟨_, rfl⟩
      obtain ⟨K, hK⟩ : ∃ K : Nat, (Utf8.decode s u).2 = K := ⟨_, rfl⟩
      rw [hR, hK] at cR
      clear hcell hu hR hK
      cases h6 : ((R : Int) == 65533) with
      | false =>
        go_wp2_with (go_at_call 30; refine cR.mono ?_; rintro e w' ⟨rfl, rfl⟩)
        go_roundg (gk - 1)
        case measure => omega
        case rel => exact ⟨k + 1, by omega, by omega, by go_num, rfl⟩
      | true =>
        cases h7 : ((K : Int) == 1) with
        | false =>
          go_wp2_with (go_at_call 30; refine cR.mono ?_; rintro e w' ⟨rfl, rfl⟩)
          go_roundg (gk - 1)
          case measure => omega
          case rel => exact ⟨k + 1, by omega, by omega, by go_num, rfl⟩
        | true =>
          go_wp2_with (go_at_call 30; refine cR.mono ?_; rintro e w' ⟨rfl, rfl⟩)
          go_ret
          exact ⟨false, rfl, HB1.out⟩
    · go_wp2_with fail
      go_ret
      exact ⟨true, rfl, HB1.out⟩
end Go.Proofs.YtpaieadnicmplaaDoor

/- SeLastOf, SeTrimLeft, SeTrimRight; impl.StrTrimSpace. -/
import Derived.Test.YtpaieadnicmplaaDoorTrLB
import Derived.Test.YtpaieadnicmplaaDoorAnyB
set_option linter.unusedVariables false
namespace Go.Proofs.YtpaieadnicmplaaDoor
open Go.RowKit Go.Lib

theorem lF_start (s : ByteArray) (p : Nat → Bool) (l : List Nat) : lP s p l = lF s p (-1) l := rfl

set_option maxRecDepth 100000 in
set_option maxHeartbeats 2000000 in
theorem SeLastOf (s chars : ByteArray) (has : Bool) (w : World) (hs : s.size < 4294967281) (hcs : chars.size < 4294967281) :
    Calls Tryd.prog 32 #[.string s, .string chars, .bool has] w fun e w' => e = .returned (.int .i64 (lP s (fun c => hasR chars c == has) (starts s 0))) ∧ Below w.heap.size w w' := by
  have hlen := starts_len s s.size 0 (by omega)
  have Hmem : Hid (∀ x ∈ starts s 0, 0 ≤ x ∧ x < s.size) := starts_mem s s.size 0 (by omega)
  obtain ⟨p, hp⟩ : ∃ p : Nat → Bool, p = fun c => hasR chars c == has := ⟨_, rfl⟩
  rw [← hp, lF_start]
  have HP := Lib.hid hp
  have HCS := Lib.hid (SeStarts s w hs)
  obtain ⟨xs, hxs⟩ : ∃ xs, xs = starts s 0 := ⟨_, rfl⟩
  rw [← hxs] at hlen Hmem HCS ⊢
  clear hp hxs
  go_enter Tryd.func32, Tryd.ntmps32
  go_wp2_with fail
  refine HCS.out.mono ?_
  rintro e w1 ⟨v, rfl, hI, hB1⟩
  obtain ⟨A, cp, rfl, hc, hx⟩ := hI
  have HX := Lib.hid hx
  have HB1 := Lib.hid hB1
  clear hx hB1
  go_wp2_with fail
  go_loopg [7, 15] xs.length (fun g lv iv wx => ∃ (k : Nat) (z : Int), k ≤ xs.length ∧ xs.length ≤ k + g ∧ iv = .int .i64 k ∧ lv = .int .i64 z ∧ Hid (lF s p z (xs.drop k) = lF s p (-1) xs) ∧ Hid (Below w1.heap.size w1 wx))
  case atStart => exact ⟨0, -1, Nat.zero_le _, by omega, rfl, rfl, rfl, Below.refl _ _⟩
  case round =>
    obtain ⟨k, z, hk, hg, rfl, rfl, HF, HBx⟩ := hrel
    by_cases hlt : k < xs.length
    · obtain ⟨u, hu⟩ : ∃ u, xs[k]? = some u := ⟨xs[k], List.getElem?_eq_getElem hlt⟩
      obtain ⟨g, o, rfl, hg', hcell⟩ := HX.out (by rintro rfl; simp at hlt)
      have hcu : wr.cell? ⟨g, o + k, none⟩ = some (.int .i64 (u : Int)) := (HBx.out.cell (p := ⟨g, o + k, none⟩) hg').trans (hcell k u hu)
      have hus := (Hmem.out u (List.mem_of_getElem? hu)).2
      have hF := HF.out
      rw [drop_cons' hu, lF_cons] at hF
      have cR := SeRune s u wr hs hus
      obtain ⟨R, hR⟩ : ∃ R : Nat, (Utf8.decode s u).1 = R := ⟨_, rfl⟩
      rw [hR] at cR hF
      have cH := SeHas chars R wr hcs
      obtain ⟨b, hbd⟩ : ∃ b, b = hasR chars R := ⟨_, rfl⟩
      have hpR : p R = (b == has) := by rw [HP.out, hbd]
      rw [hpR] at hF
      rw [← hbd] at cH
      clear hcell hu hR hbd hpR
      have hsz := HBx.out.size
      cases hq : (b == has) with
      | true =>
        rw [hq, if_pos rfl] at hF
        have HF' := Lib.hid hF
        clear hF
        go_wp2_with (first | (go_at_call 30; refine cR.mono ?_; rintro e w' ⟨rfl, rfl⟩) | (go_at_call 48; refine cH.mono ?_; rintro e w' ⟨rfl, hB2⟩; have HB2 := Lib.hid hB2; clear hB2))
        go_roundg (gk - 1)
        case measure => omega
        case rel => exact ⟨k + 1, u, by omega, by omega, by go_num, rfl, HF', HBx.out.trans (HB2.out.mono hsz)⟩
      | false =>
        rw [hq, if_neg (by decide)] at hF
        have HF' := Lib.hid hF
        clear hF
        go_wp2_with (first | (go_at_call 30; refine cR.mono ?_; rintro e w' ⟨rfl, rfl⟩) | (go_at_call 48; refine cH.mono ?_; rintro e w' ⟨rfl, hB2⟩; have HB2 := Lib.hid hB2; clear hB2))
        go_roundg (gk - 1)
        case measure => omega
        case rel => exact ⟨k + 1, z, by omega, by omega, by go_num, rfl, HF', HBx.out.trans (HB2.out.mono hsz)⟩
    · have hF := HF.out
      rw [List.drop_eq_nil_of_le (by omega)] at hF
      have HF' := Lib.hid hF
      clear hF
      go_wp2_with fail
      go_ret
      exact ⟨ret_int HF'.out, HB1.out.trans (HBx.out.mono HB1.out.size)⟩

theorem SeSpaces (w : World) : Calls Tryd.prog 18 #[] w fun e w' => e = .returned (.string spc) ∧ w = w' := by
  go_enter Tryd.func18, Tryd.ntmps18
  go_wp2
  go_ret
  exact ⟨rfl, rfl⟩

set_option maxRecDepth 100000 in
set_option maxHeartbeats 2000000 in
theorem SeTrimLeft (s : ByteArray) (w : World) (hs : s.size < 2147483648) :
    Calls Tryd.prog 17 #[.string s, .string spc] w fun e w' => e = .returned (.string (goTrimLeft s)) ∧ Below w.heap.size w w' := by
  have HC := Lib.hid (SeFirstOf s spc false w (by omega) (by decide))
  rw [notSp_spc] at HC
  have hL := left_fP s s.size 0 (by omega)
  have hm := fP_at s notSp (starts s 0)
  have hmem := starts_mem s s.size 0 (by omega)
  obtain ⟨z, hz⟩ : ∃ z, z = fP s notSp (starts s 0) := ⟨_, rfl⟩
  rw [← hz] at HC hL hm
  have hgt : goTrimLeft s = if z = -1 then ⟨#[]⟩ else s.extract z.toNat s.size := by unfold goTrimLeft leftIdx; rw [hL]
  rw [hgt]
  obtain ⟨sp, hsp⟩ : ∃ sp, sp = spc := ⟨_, rfl⟩
  rw [← hsp] at HC ⊢
  clear hz hL hgt hsp
  rcases hm with rfl | ⟨a, ha, rfl⟩
  · rw [if_pos rfl]
    go_enter Tryd.func17, Tryd.ntmps17
    go_wp2_with fail
    refine HC.out.mono ?_
    rintro e w1 ⟨rfl, hB⟩
    have HB := Lib.hid hB
    clear hB
    go_wp2_with fail
    go_ret
    exact ⟨rfl, HB.out⟩
  · have hlt := (hmem a ha).2
    rw [if_neg (by omega), Int.toNat_natCast]
    clear hmem ha
    go_enter Tryd.func17, Tryd.ntmps17
    go_wp2_with fail
    refine HC.out.mono ?_
    rintro e w1 ⟨rfl, hB⟩
    have HB := Lib.hid hB
    clear hB
    go_wp2_with fail
    go_ret
    exact ⟨rfl, HB.out⟩

set_option maxRecDepth 100000 in
set_option maxHeartbeats 2000000 in
theorem SeTrimRight (s : ByteArray) (w : World) (hs : s.size < 2147483648) :
    Calls Tryd.prog 16 #[.string s, .string spc] w fun e w' => e = .returned (.string (goTrimRight s)) ∧ Below w.heap.size w w' := by
  have HC := Lib.hid (SeLastOf s spc false w (by omega) (by decide))
  rw [notSp_spc] at HC
  have hL := right_lP s s.size s.size _ (Bd.all s) (Nat.le_refl _)
  have hm := lP_mem s notSp (starts s 0)
  have hmem := starts_mem s s.size 0 (by omega)
  obtain ⟨z, hz⟩ : ∃ z, z = lP s notSp (starts s 0) := ⟨_, rfl⟩
  rw [← hz] at HC hL hm
  have hgt : goTrimRight s = s.extract 0 (if 0 ≤ z then z.toNat + (decodeGoB (s.extract z.toNat s.size)).2 else 0) := by unfold goTrimRight rightEnd rightIdx; rw [hL]
  rw [hgt]
  obtain ⟨sp, hsp⟩ : ∃ sp, sp = spc := ⟨_, rfl⟩
  rw [← hsp] at HC ⊢
  clear hz hL hgt hsp
  rcases hm with rfl | ⟨a, ha, rfl⟩
  · rw [if_neg (by decide), show s.extract 0 0 = ⟨#[]⟩ from ByteArray.ext (by simp)]
    go_enter Tryd.func16, Tryd.ntmps16
    go_wp2_with fail
    refine HC.out.mono ?_
    rintro e w1 ⟨rfl, hB⟩
    have HB := Lib.hid hB
    clear hB
    go_wp2_with fail
    go_ret
    exact ⟨rfl, HB.out⟩
  · have hlt := (hmem a ha).2
    rw [if_pos (by omega), Int.toNat_natCast, decodeGoB_suffix s a hlt]
    have hwe := decode_end s a hlt
    have HR := fun W => Lib.hid (SeRune s a W (by omega) hlt)
    obtain ⟨K, hK⟩ : ∃ K, K = (Utf8.decode s a).2 := ⟨_, rfl⟩
    rw [← hK] at hwe HR ⊢
    have HR' := Lib.hid HR
    clear hmem ha hK HR
    go_enter Tryd.func16, Tryd.ntmps16
    go_wp2_with fail
    refine HC.out.mono ?_
    rintro e w1 ⟨rfl, hB⟩
    have HB := Lib.hid hB
    clear hB
    go_wp2_with fail
    refine (HR'.out _).out.mono ?_
    rintro e w2 ⟨rfl, rfl⟩
    go_wp2_with fail
    go_ret
    exact ⟨rfl, HB.out⟩

theorem a_trim : goTrimRight (goTrimLeft ⟨#[32, 97, 32]⟩) = ⟨#[97]⟩ := by rw [trim_eq]; decide +kernel
end Go.Proofs.YtpaieadnicmplaaDoor

/- gobytes.IndexRune: the short roads. -/
import Derived.Test.YtpaieadnicmplaaDoorIR
import Derived.Test.YtpaieadnicmplaaDoorBIdx2
import Derived.Test.YtpaieadnicmplaaDoorSplAP
import Derived.Test.YtpaieadnicmplaaDoorL7E
set_option linter.unusedVariables false
namespace Go.Proofs.YtpaieadnicmplaaDoor
open Go.RowKit Go.Lib
attribute [local go_sem] off_normal off_exit off_ret off_panic hop_normal hop_exit hop_ret hop_panic

theorem byt_fromR {w : World} {g o : Nat} {x : ByteArray} (h : Lib.Bytes w g o x) (k : Nat) (hk : k ≤ x.size) : Lib.Bytes w g (o + k) (x.extract k x.size) := fun i hi => by
  rw [ByteArray.size_extract] at hi
  have := h (k + i) (by omega)
  rw [Nat.add_assoc, this, ByteArray.getElem_extract]
set_option maxRecDepth 100000 in
set_option maxHeartbeats 2000000 in
theorem gbIndexRune_ascii (s : ByteArray) (r : Int) (g c1 : Nat) (w : World) (hB : Lib.Bytes w g 0 s) (hs : s.size < 4294967281) (h0 : 0 ≤ r) (h1 : r < 128) :
    Calls Tryd.prog 21 #[.slice (some ⟨g, 0, none⟩) s.size c1, .int .i32 r] w fun e w' => e = .returned (.int .i64 (fP s (isR r) (starts s 0))) ∧ Below w.heap.size w w' := by
  rw [fP_ascii s r h0 h1]
  have HBy := Lib.hid hB
  clear hB
  go_enter Tryd.func21, Tryd.ntmps21
  go_wp2_with fail
  refine (gbIndexByte g 0 c1 s r _ (by omega) (by omega) hs HBy.out).mono ?_
  rintro e w' ⟨rfl, rfl⟩
  go_wp2_with fail
  go_ret
  exact ⟨rfl, Below.refl _ _⟩

set_option maxRecDepth 100000 in
set_option maxHeartbeats 2000000 in
theorem gbIndexRune_bad (s : ByteArray) (r : Int) (g c1 : Nat) (w : World) (hv : Utf8.valid r = false) (hf : (r == 65533) = false) :
    Calls Tryd.prog 21 #[.slice (some ⟨g, 0, none⟩) s.size c1, .int .i32 r] w fun e w' => e = .returned (.int .i64 (fP s (isR r) (starts s 0))) ∧ Below w.heap.size w w' := by
  rw [fP_invalid s r hv]
  have hr : r < 0 ∨ (55296 ≤ r ∧ r < 57344) ∨ 1114111 < r := by
    have := valid_iff r
    rw [hv] at this
    simp at this
    omega
  rcases hr with h | ⟨h, h'⟩ | h
  all_goals
    clear hv
    go_enter Tryd.func21, Tryd.ntmps21
    go_wp2_with go_in
    go_ret
    exact ⟨rfl, Below.refl _ _⟩

set_option maxRecDepth 100000 in
set_option maxHeartbeats 2000000 in
theorem gbIndexRune_err (s : ByteArray) (g c1 : Nat) (w : World) (hB : Lib.Bytes w g 0 s) (hg : g < w.heap.size) (hcap : s.size ≤ c1) (hs : s.size < 2147483648) (hT : Tabs w) :
    Calls Tryd.prog 21 #[.slice (some ⟨g, 0, none⟩) s.size c1, .int .i32 65533] w fun e w' => e = .returned (.int .i64 (fP s (isR 65533) (starts s 0))) ∧ Below w.heap.size w w' := by
  have HBy := Lib.hid hB
  have HT := Lib.hid hT
  clear hB hT
  go_enter Tryd.func21, Tryd.ntmps21
  go_wp2
  go_loopg [5] s.size (fun gk iv wx => ∃ pos : Nat, iv = .int .i64 pos ∧ pos ≤ s.size ∧ Hid (Below w.heap.size w wx) ∧ Hid (fP s (isR 65533) (starts s pos) = fP s (isR 65533) (starts s 0)) ∧ s.size ≤ pos + gk)
  case atStart => exact ⟨0, rfl, Nat.zero_le _, Lib.hid (Below.refl w.heap.size w), Lib.hid rfl, by omega⟩
  case round =>
    obtain ⟨pos, rfl, hps, HB, HL, hfu⟩ := hrel
    by_cases hp : pos < s.size
    · have hpi : (pos : Int) < (s.size : Int) := by omega
      have hca : ¬ c1 = pos := by omega
      have hwd := decode_width_pos s pos hp
      have hwe := decode_end s pos hp
      have hxs : (s.extract pos s.size).size = s.size - pos := by rw [ByteArray.size_extract]; omega
      have hBx : Lib.Bytes wr g pos (s.extract pos s.size) := by
        have := byt_fromR (bytes_below HBy.out HB.out hg) pos (by omega)
        rw [Nat.zero_add] at this
        exact this
      have hcD := dDecB (s.extract pos s.size) g pos (c1 - pos) wr (HT.out.below HB.out) hBx
      rw [decode_suffix s pos hp, hxs] at hcD
      have hl := HL.out
      rw [starts_cons s pos hp, fP_cons] at hl
      obtain ⟨R, hR⟩ : ∃ R, (Utf8.decode s pos).1 = R := ⟨_, rfl⟩
      obtain ⟨K, hK⟩ : ∃ K, (Utf8.decode s pos).2 = K := ⟨_, rfl⟩
      rw [hR, hK] at hl hcD
      rw [hK] at hwd hwe
      have CD := Lib.hid hcD
      by_cases h6 : (R : Int) = 65533
      · rw [if_pos ((isR_iff _ _).2 h6)] at hl
        have hb : ((R : Int) == 65533) = true := by simpa using h6
        have HL' := Lib.hid hl
        clear hl h6 hR hK hcD HL hBx hxs
        go_wp2_with fail
        refine CD.out.mono ?_
        rintro e w2 ⟨rfl, hB2⟩
        have HB2 := bl3 HB hB2
        clear hB2
        go_wp2
        go_ret
        exact ⟨ret_int HL'.out, HB2.out⟩
      · rw [if_neg (fun h => h6 ((isR_iff _ _).1 h))] at hl
        have hb : ((R : Int) == 65533) = false := by simpa using h6
        have HL' := Lib.hid hl
        clear hl h6 hR hK hcD HL hBx hxs
        go_wp2_with fail
        refine CD.out.mono ?_
        rintro e w2 ⟨rfl, hB2⟩
        have HB2 := bl3 HB hB2
        clear hB2
        go_wp2
        go_roundg (gk - 1)
        case measure => omega
        case rel => exact ⟨pos + K, by go_num, by omega, HB2, HL'.out, by omega⟩
    · have hpi : ¬ (pos : Int) < (s.size : Int) := by omega
      have hl := HL.out
      rw [starts_end s pos (by omega)] at hl
      have HL' := Lib.hid hl
      clear hl HL
      go_wp2
      go_ret
      exact ⟨ret_int HL'.out, HB.out⟩
end Go.Proofs.YtpaieadnicmplaaDoor

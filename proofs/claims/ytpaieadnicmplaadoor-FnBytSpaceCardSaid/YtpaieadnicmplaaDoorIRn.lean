/- gostrings.IndexRune. -/
import Derived.Test.YtpaieadnicmplaaDoorSts
import Derived.Test.YtpaieadnicmplaaDoorHop
import Derived.Deep.RegionWith
import Derived.Lib.OthersKept
import Derived.Deep.LoopGhost
import Derived.Deep.QuietTactic
import Derived.BigQuiet
import Derived.Lib.Hide
set_option linter.unusedVariables false
namespace Go.Proofs.YtpaieadnicmplaaDoor
open Go.RowKit Go.Lib
attribute [local go_sem] off_normal off_exit off_ret off_panic hop_normal hop_exit hop_ret hop_panic


theorem gIndexByte (s : ByteArray) (c : Int) (w : World) (h0 : 0 ≤ c) (h1 : c ≤ 255) (hs : s.size < 4294967281) :
    Calls Tryd.prog 42 #[.string s, .int .u8 c] w fun e w' => e = .returned (.int .i64 (Lib.indexByte s.data.toList c.toNat.toUInt8)) ∧ w = w' := by
  go_enter Tryd.func42, Tryd.ntmps42
  go_wp2_with (first | (go_at_call 60; refine (IndexByteString s c _ h0 h1 hs).mono ?_; rintro e w' ⟨rfl, rfl⟩) | go_in)
  go_ret
  exact ⟨rfl, rfl⟩

set_option maxRecDepth 100000 in
set_option maxHeartbeats 2000000 in
theorem gIndexRune_ascii (s : ByteArray) (r : Int) (w : World) (hs : s.size < 4294967281) (h0 : 0 ≤ r) (h1 : r < 128) :
    Calls Tryd.prog 23 #[.string s, .int .i32 r] w fun e w' => e = .returned (.int .i64 (fP s (isR r) (starts s 0))) ∧ Below w.heap.size w w' := by
  rw [fP_ascii s r h0 h1]
  go_enter Tryd.func23, Tryd.ntmps23
  go_wp2_with fail
  refine (gIndexByte s r _ (by omega) (by omega) hs).mono ?_
  rintro e w' ⟨rfl, rfl⟩
  go_wp2_with fail
  go_ret
  exact ⟨rfl, Below.refl _ _⟩

set_option maxRecDepth 100000 in
set_option maxHeartbeats 2000000 in
theorem gIndexRune_bad (s : ByteArray) (r : Int) (w : World) (hs : s.size < 4294967281) (hv : Utf8.valid r = false) (hf : (r == 65533) = false) :
    Calls Tryd.prog 23 #[.string s, .int .i32 r] w fun e w' => e = .returned (.int .i64 (fP s (isR r) (starts s 0))) ∧ Below w.heap.size w w' := by
  rw [fP_invalid s r hv]
  have hr : r < 0 ∨ (55296 ≤ r ∧ r < 57344) ∨ 1114111 < r := by
    have := valid_iff r
    rw [hv] at this
    simp at this
    omega
  rcases hr with h | ⟨h, h'⟩ | h
  all_goals
    clear hv
    go_enter Tryd.func23, Tryd.ntmps23
    go_wp2_with go_in
    go_ret
    exact ⟨rfl, Below.refl _ _⟩

set_option maxRecDepth 100000 in
set_option maxHeartbeats 2000000 in
theorem gIndexRune_err (s : ByteArray) (w : World) (hs : s.size < 4294967281) :
    Calls Tryd.prog 23 #[.string s, .int .i32 65533] w fun e w' => e = .returned (.int .i64 (fP s (isR 65533) (starts s 0))) ∧ Below w.heap.size w w' := by
  go_enter Tryd.func23, Tryd.ntmps23
  go_wp2
  go_loopg [] s.size (fun g wx => ∃ pos : Nat, wx.heap[w.heap.size]? = some (.stringIter s pos) ∧ Below w.heap.size w wx ∧ fP s (isR 65533) (starts s pos) = fP s (isR 65533) (starts s 0) ∧ s.size ≤ pos + g)
  case atStart => exact ⟨0, World.iter_heap w s 0, (Below.refl _ w).alloc (Nat.le_refl _) _, rfl, by omega⟩
  case round =>
    obtain ⟨pos, hit, hbw, hleft, hfu⟩ := hrel
    have hsz : w.heap.size < wr.heap.size := (Array.getElem?_eq_some_iff.1 hit).1
    by_cases hp : pos < s.size
    · have hnx : ∀ ty, (Instr.next (.pointer (some ⟨w.heap.size, 0, none⟩)) true ty).run Tryd.prog wr = _ := fun ty => Lib.run_next_any_at wr w.heap.size s pos ty hit hp
      have hwd := decode_width_pos s pos hp
      rw [starts_cons s pos hp, fP_cons] at hleft
      obtain ⟨R, hR⟩ : ∃ R, (Utf8.decode s pos).1 = R := ⟨_, rfl⟩
      obtain ⟨K, hK⟩ : ∃ K, (Utf8.decode s pos).2 = K := ⟨_, rfl⟩
      rw [hR, hK] at hnx
      rw [hR, hK] at hleft
      rw [hK] at hwd
      have hit2 := Lib.iterAt_heap wr w.heap.size s pos (pos + K) hit
      have hbw2 := Lib.below_iterAt hbw (k := w.heap.size) (Nat.le_refl _) s (pos + K)
      obtain ⟨W, hWd⟩ : ∃ W, wr.iterAt w.heap.size s (pos + K) = W := ⟨_, rfl⟩
      rw [hWd] at hnx hit2 hbw2
      by_cases h6 : (R : Int) = 65533
      · rw [if_pos ((isR_iff _ _).2 h6)] at hleft
        have hb : ((R : Int) == 65533) = true := by simpa using h6
        have HL := Lib.hid hleft
        clear hleft h6 hR hK hWd
        go_wp2
        go_ret
        exact ⟨ret_int HL.out, hbw2⟩
      · rw [if_neg (fun h => h6 ((isR_iff _ _).1 h))] at hleft
        have hb : ((R : Int) == 65533) = false := by simpa using h6
        have HL := Lib.hid hleft
        clear hleft h6 hR hK hWd
        go_wp2
        go_roundg (gk - 1)
        case measure => omega
        case rel => exact ⟨pos + K, hit2, hbw2, HL.out, by omega⟩
    · have hnx : ∀ ty, (Instr.next (.pointer (some ⟨w.heap.size, 0, none⟩)) true ty).run Tryd.prog wr = _ := fun ty => Lib.run_next_end_at wr w.heap.size s pos ty hit hp
      rw [starts_end s pos (by omega)] at hleft
      have HL := Lib.hid hleft
      clear hleft
      go_wp2
      go_ret
      exact ⟨ret_int HL.out, hbw⟩

theorem occ_byte {s t : ByteArray} {k L : Nat} (hk : k < s.size) (hL : L < t.size) (h : ((s[k]'hk).toNat : Int) = ((t[L]'hL).toNat : Int)) : s.get! k = t.get! L := by
  rw [get_lt s k hk, get_lt t L hL]; exact UInt8.toNat_inj.1 (by omega)
theorem occ_nbyte {s t : ByteArray} {k L : Nat} (hk : k < s.size) (hL : L < t.size) (h : ¬ ((s[k]'hk).toNat : Int) = ((t[L]'hL).toNat : Int)) : s.get! k ≠ t.get! L := by
  rw [get_lt s k hk, get_lt t L hL]; intro e; exact h (by rw [e])

theorem ValidRune_yes (r : Int) (w : World) (hv : (0 ≤ r ∧ r < 55296) ∨ (57344 ≤ r ∧ r ≤ 1114111)) :
    Calls Tryd.prog 38 #[.int .i32 r] w fun e w' => e = .returned (.bool true) ∧ w = w' := by
  rcases hv with ⟨h1, h2⟩ | ⟨h1, h2⟩
  all_goals
    go_enter Tryd.func38, Tryd.ntmps38
    go_wp2
    go_ret
    exact ⟨rfl, rfl⟩

end Go.Proofs.YtpaieadnicmplaaDoor

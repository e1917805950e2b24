/- The walk of FnStrIndexByte. -/
import Derived.Test.YtggjdibahpnclaaBas
import Derived.Deep.RegionWith
namespace Go.Proofs.Ytggjdibahpnclaa
open Go.RowKit Go.Lib

set_option maxHeartbeats 400000 in
theorem StrIndexByte (s : ByteArray) (c : Int) (w : World) (h0 : 0 ≤ c) (h1 : c ≤ 255) (hs : s.size < 4294967281) :
    Calls Try.prog 16 #[.string s, .int .u8 c] w fun e w' => e = .returned (.int .i64 (Lib.indexByte s.data.toList c.toNat.toUInt8)) ∧ w = w' := by
  go_enter Try.func16, Try.ntmps16
  go_wp2_with (first | (go_at_call 77; refine (IndexByteString s c _ h0 h1 hs).mono ?_; rintro e w' ⟨rfl, rfl⟩) | go_in)
  go_ret
  exact ⟨rfl, rfl⟩

theorem wf_u8 {c : Int} (h : (Lit.int .u8 c).wf = true) : 0 ≤ c ∧ c ≤ 255 := bounds_u8 h

theorem one_byte (W : World) (c : Int) :
    (convert 23 9 (.slice (some ⟨W.heap.size, 0, none⟩) 1 1)).run Try.prog (W.alloc (.cells #[.int .u8 c] 5)).drew = .ok (.string ⟨#[UInt8.ofNat c.toNat]⟩) (W.alloc (.cells #[.int .u8 c] 5)).drew := by
  rw [run_convert_bytes_arg _ 23 5 Try.underlying23 Try.underlying5 W.heap.size 0 1 1 [c] rfl (fun i hi => by
    obtain rfl : i = 0 := by omega
    simp) 9 Try.underlying9]
  rfl

set_option maxHeartbeats 1000000 in
theorem walk_FnStrIndexByte (s : ByteArray) (c : Int) (w : World) (hs : s.size ≤ maxLen) (hc : (Lit.int .u8 c).wf = true) :
    Calls Try.prog 4 #[.string s, .int .u8 c] w fun e w' => e = .returned (.bool true) ∧ Below w.heap.size w w' := by
  unfold maxLen at hs
  obtain ⟨h0, h1⟩ := wf_u8 hc
  by_cases hbig : 2147483647 < s.size
  · go_enter Try.func4, Try.ntmps4
    go_wp2
    go_ret
    exact ⟨rfl, Below.refl _ _⟩
  · have kc := one_byte w c
    have k1 : Lib.indexByte [97, 98] 98 = 1 := by decide
    go_enter Try.func4, Try.ntmps4
    go_wp2_with fail
    go_region_with (first
      | (go_at_call 16; refine (StrIndexByte _ _ _ (by omega) (by omega) (by first | omega | (simp only [ByteArray.size]; decide))).mono ?_; rintro e w' ⟨rfl, rfl⟩)
      | (go_at_call 17; refine (SeFirst1 _ _ _ (by omega)).mono ?_; rintro e w' ⟨rfl, rfl⟩))
    all_goals
      go_wp2
      go_ret
      exact ⟨rfl, ((Below.refl _ _).alloc (Nat.le_refl _) _).drew⟩
end Go.Proofs.Ytggjdibahpnclaa

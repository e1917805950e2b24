/- The contract of stringslite.Index (after the shelf's walk). -/
import Derived.Test.YtpaieadnicmplaaDoorRk
import Derived.Lib.IndexEntry
namespace Go.Proofs.YtpaieadnicmplaaDoor
open Go.RowKit Go.Lib

set_option maxHeartbeats 400000 in
theorem sIndexByte (s : ByteArray) (c : Int) (w : World) (h0 : 0 ≤ c) (h1 : c ≤ 255) (hs : s.size < 4294967281) :
    Calls Tryd.prog 53 #[.string s, .int .u8 c] w fun e w' => e = .returned (.int .i64 (Lib.indexByte s.data.toList c.toNat.toUInt8)) ∧ w = w' := by
  go_enter Tryd.func53, Tryd.ntmps53
  go_wp2_with fail
  refine (IndexByteString s c _ h0 h1 hs).mono ?_
  rintro e w' ⟨rfl, rfl⟩
  go_wp2
  go_ret
  exact ⟨rfl, rfl⟩

theorem byte_le (x : UInt8) : ((x.toNat : Nat) : Int) ≤ 255 := by have := UInt8.toNat_lt x; omega

end Go.Proofs.YtpaieadnicmplaaDoor

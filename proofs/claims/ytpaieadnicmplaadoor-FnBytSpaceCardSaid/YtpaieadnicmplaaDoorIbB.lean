/- bytealg.IndexByte over a slice. -/
import Derived.Test.YtpaieadnicmplaaDoorBas
import Derived.Test.YtpaieadnicmplaaDoorByt
namespace Go.Proofs.YtpaieadnicmplaaDoor
open Go.RowKit Go.Lib

set_option maxHeartbeats 400000 in
theorem IndexByteB (s : ByteArray) (c : Int) (b o cap : Nat) (w : World) (h0 : 0 ≤ c) (h1 : c ≤ 255) (hs : s.size < 4294967281) (hB : Hid (Lib.Bytes w b o s)) :
    Calls Tryd.prog 50 #[.slice (some ⟨b, o, none⟩) s.size cap, .int .u8 c] w fun e w' => e = .returned (.int .i64 (Lib.indexByte s.data.toList c.toNat.toUInt8)) ∧ w = w' := by
  go_enter Tryd.func50, Tryd.ntmps50
  go_wp2
  go_loop [5, 6, 9] (fun _ _ i => ∃ k : Nat, k ≤ s.size ∧ i = .int .i64 k ∧ Hid (NoB s.data.toList c.toNat.toUInt8 k)) (fun _ _ i => s.size - (RowKit.intOf i).toNat)
  case atStart => exact ⟨0, Nat.zero_le _, rfl, NoB.zero _ _⟩
  case round =>
    obtain ⟨k, hk, rfl, hn⟩ := hrel
    by_cases hlt : k < s.size
    · have hcell := hB.out k hlt
      by_cases heq : (s[k].toNat : Int) = c
      · have hb : ((s[k].toNat : Int) == c) = true := by simpa using heq
        have H := Lib.hid heq
        clear heq
        go_wp2
        go_ret
        exact ⟨ret_int (ib_hit hn.out (at_eq s k hlt c h0 h1 H.out)).symm, rfl⟩
      · have hb : ((s[k].toNat : Int) == c) = false := by simpa using heq
        have H := Lib.hid heq
        clear heq
        go_wp2
        go_round
        case rel => exact ⟨k + 1, by omega, by go_num, hn.out.succ (at_ne s k hlt c h0 h1 H.out)⟩
        case measure => simp [RowKit.intOf]; omega
    · go_wp2
      go_ret
      refine ⟨ret_int (ib_miss ?_).symm, rfl⟩
      have e : s.data.toList.length = k := by simp; omega
      rw [e]; exact hn.out
end Go.Proofs.YtpaieadnicmplaaDoor

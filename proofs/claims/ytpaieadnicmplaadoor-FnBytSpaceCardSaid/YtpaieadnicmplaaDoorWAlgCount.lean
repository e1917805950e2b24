/- The walk of FnAlgCount. -/
import Derived.Test.YtpaieadnicmplaaDoorByt
import Derived.Test.YtpaieadnicmplaaDoorWStrIndexByte
namespace Go.Proofs.YtpaieadnicmplaaDoor
open Go.RowKit Go.Lib

/-- How often c stands among the first k bytes. -/
def cnt (s : ByteArray) (c : Int) (k : Nat) : Nat := (s.data.toList.take k).count c.toNat.toUInt8
theorem cnt_le (s : ByteArray) (c : Int) (k : Nat) : cnt s c k ≤ k := Nat.le_trans List.count_le_length (List.length_take_le _ _)
theorem cnt_hit (s : ByteArray) (k : Nat) (hk : k < s.size) (c : Int) (h0 : 0 ≤ c) (h1 : c ≤ 255) (h : (s[k].toNat : Int) = c) : cnt s c (k + 1) = cnt s c k + 1 := by
  unfold cnt
  rw [List.take_add_one, at_eq s k hk c h0 h1 h, List.count_append]; simp
theorem cnt_miss (s : ByteArray) (k : Nat) (hk : k < s.size) (c : Int) (h0 : 0 ≤ c) (h1 : c ≤ 255) (h : ¬ (s[k].toNat : Int) = c) : cnt s c (k + 1) = cnt s c k := by
  have hn := at_ne s k hk c h0 h1 h
  rw [byte_at s k hk] at hn
  unfold cnt
  rw [List.take_add_one, byte_at s k hk, List.count_append]
  have : List.count c.toNat.toUInt8 (some s[k]).toList = 0 := by
    rw [List.count_eq_zero]; intro hm; apply hn
    simpa using congrArg some (List.mem_singleton.1 hm).symm
  omega
theorem cnt_all (s : ByteArray) (c : Int) (k : Nat) (hk : k = s.size) : cnt s c k = cnt s c s.size := by rw [hk]

set_option maxHeartbeats 400000 in
theorem CountB (s : ByteArray) (c : Int) (b o cap : Nat) (w : World) (h0 : 0 ≤ c) (h1 : c ≤ 255) (hs : s.size < 4294967281) (hB : Hid (Lib.Bytes w b o s)) :
    Calls Tryd.prog 62 #[.slice (some ⟨b, o, none⟩) s.size cap, .int .u8 c] w fun e w' => e = .returned (.int .i64 (cnt s c s.size)) ∧ w = w' := by
  go_enter Tryd.func62, Tryd.ntmps62
  go_wp2
  go_loop [5, 7, 10] (fun n _ i => ∃ k m : Nat, k ≤ s.size ∧ i = .int .i64 k ∧ n = .int .i64 m ∧ m ≤ k ∧ Hid (m = cnt s c k)) (fun _ _ i => s.size - (RowKit.intOf i).toNat)
  case atStart => exact ⟨0, 0, Nat.zero_le _, rfl, rfl, Nat.le_refl _, by show 0 = _; simp [cnt]⟩
  case round =>
    obtain ⟨k, m, hk, rfl, rfl, hm, hn⟩ := hrel
    by_cases hlt : k < s.size
    · have hcell := hB.out k hlt
      by_cases heq : (s[k].toNat : Int) = c
      · have hb : ((s[k].toNat : Int) == c) = true := by simpa using heq
        have H := Lib.hid heq
        clear heq
        go_wp2
        go_round
        case rel => exact ⟨k + 1, m + 1, by omega, by go_num, by go_num, by omega, by show _ = _; rw [cnt_hit s k hlt c h0 h1 H.out, hn.out]⟩
        case measure => simp [RowKit.intOf]; omega
      · have hb : ((s[k].toNat : Int) == c) = false := by simpa using heq
        have H := Lib.hid heq
        clear heq
        go_wp2
        go_round
        case rel => exact ⟨k + 1, m, by omega, by go_num, rfl, by omega, by show _ = _; rw [cnt_miss s k hlt c h0 h1 H.out, hn.out]⟩
        case measure => simp [RowKit.intOf]; omega
    · go_wp2
      go_ret
      exact ⟨ret_int (by rw [hn.out, cnt_all s c k (by omega)]), rfl⟩

end Go.Proofs.YtpaieadnicmplaaDoor

/- gostrings.Count at a text that is not empty. -/
import Derived.Test.YtblaldahhhokmaaDoorSIx
import Derived.Lib.CountLaws
import Derived.Lib.SplitLaws
set_option linter.unusedVariables false
namespace Go.Proofs.YtblaldahhhokmaaDoor
open Go.RowKit Go.Lib

/-- How often c stands among the first k bytes. -/
def cnt (s : ByteArray) (c : Int) (k : Nat) : Nat := (s.data.toList.take k).count c.toNat.toUInt8
theorem cnt_le (s : ByteArray) (c : Int) (k : Nat) : cnt s c k ≤ k := Nat.le_trans List.count_le_length (List.length_take_le _ _)
theorem cnt_hit (s : ByteArray) (k : Nat) (hk : k < s.size) (c : Int) (h0 : 0 ≤ c) (h1 : c ≤ 255) (h : (s[k].toNat : Int) = c) : cnt s c (k + 1) = cnt s c k + 1 := by
  unfold cnt
  rw [List.take_add_one, at_eq s k hk c h0 h1 h, List.count_append]; simp
theorem cnt_miss (s : ByteArray) (k : Nat) (hk : k < s.size) (c : Int) (h0 : 0 ≤ c) (h1 : c ≤ 255) (h : ¬ (s[k].toNat : Int) = c) : cnt s c (k + 1) = cnt s c k := by
  have hn := at_ne s k hk c h0 h1 h
  rw [byte_at s k hk] at hn
  unfold cnt
  rw [List.take_add_one, byte_at s k hk, List.count_append]
  have : List.count c.toNat.toUInt8 (some s[k]).toList = 0 := by
    rw [List.count_eq_zero]; intro hm; apply hn
    simpa using congrArg some (List.mem_singleton.1 hm).symm
  omega
theorem cnt_all (s : ByteArray) (c : Int) (k : Nat) (hk : k = s.size) : cnt s c k = cnt s c s.size := by rw [hk]

set_option maxHeartbeats 400000 in
theorem CountString (s : ByteArray) (c : Int) (w : World) (h0 : 0 ≤ c) (h1 : c ≤ 255) (hs : s.size < 4294967281) :
    Calls Tryd.prog 90 #[.string s, .int .u8 c] w fun e w' => e = .returned (.int .i64 (cnt s c s.size)) ∧ w = w' := by
  go_enter Tryd.func90, Tryd.ntmps90
  go_wp2
  go_loop [5, 6] (fun n i => ∃ k m : Nat, k ≤ s.size ∧ i = .int .i64 k ∧ n = .int .i64 m ∧ m ≤ k ∧ Hid (m = cnt s c k)) (fun _ i => s.size - (RowKit.intOf i).toNat)
  case atStart => exact ⟨0, 0, Nat.zero_le _, rfl, rfl, Nat.le_refl _, by show 0 = _; simp [cnt]⟩
  case round =>
    obtain ⟨k, m, hk, rfl, rfl, hm, hn⟩ := hrel
    by_cases hlt : k < s.size
    · by_cases heq : (s[k].toNat : Int) = c
      · have hb : ((s[k].toNat : Int) == c) = true := by simpa using heq
        have H := Lib.hid heq
        clear heq
        go_wp2
        go_round
        case rel => exact ⟨k + 1, m + 1, by omega, by go_num, by go_num, by omega, by show _ = _; rw [cnt_hit s k hlt c h0 h1 H.out, hn.out]⟩
        case measure => simp [RowKit.intOf]; omega
      · have hb : ((s[k].toNat : Int) == c) = false := by simpa using heq
        have H := Lib.hid heq
        clear heq
        go_wp2
        go_round
        case rel => exact ⟨k + 1, m, by omega, by go_num, rfl, by omega, by show _ = _; rw [cnt_miss s k hlt c h0 h1 H.out, hn.out]⟩
        case measure => simp [RowKit.intOf]; omega
    · go_wp2
      go_ret
      exact ⟨ret_int (by rw [hn.out, cnt_all s c k (by omega)]), rfl⟩

theorem cnt_whole (s : ByteArray) (x : UInt8) : cnt s (x.toNat : Int) s.size = countByte s.data.toList x := by
  unfold cnt countByte
  rw [List.take_of_length_le (by simp), show ((x.toNat : Nat) : Int).toNat.toUInt8 = x from by
    apply UInt8.toNat_inj.1
    show ((x.toNat : Nat) : Int).toNat % 256 = x.toNat
    have := x.toNat_lt
    omega]

set_option maxHeartbeats 1000000 in
theorem gCount_one (s : ByteArray) (c : UInt8) (w : World) (hs : s.size < 4294967281) :
    Calls Tryd.prog 74 #[.string s, .string ⟨#[c]⟩] w fun e w' => e = .returned (.int .i64 (Lib.countByte s.data.toList c)) ∧ w' = w := by
  have h0 := c.toNat_lt
  have CC := Lib.hid (CountString s (c.toNat : Int) w (by omega) (by omega) hs)
  rw [← cnt_whole]
  go_enter Tryd.func74, Tryd.ntmps74
  go_wp2_with (go_at_call 90; refine CC.out.mono ?_; rintro e w' ⟨rfl, rfl⟩)
  go_ret
  exact ⟨rfl, rfl⟩

set_option maxHeartbeats 4000000 in
set_option maxRecDepth 100000 in
theorem gCount_long (s sub : ByteArray) (w : World) (hs : s.size < 4294967281) (h2 : 2 ≤ sub.size) :
    Calls Tryd.prog 74 #[.string s, .string sub] w fun e w' => e = .returned (.int .i64 (Lib.countB s sub)) ∧ w' = w := by
  have n0 : (((sub.size : Nat) : Int) == 0) = false := beq_eq_false_iff_ne.2 (by omega)
  have n1 : (((sub.size : Nat) : Int) == 1) = false := beq_eq_false_iff_ne.2 (by omega)
  go_enter Tryd.func74, Tryd.ntmps74
  go_wp2
  go_loop [0, 5] (fun sv nv => ∃ (sk : ByteArray) (k : Nat), sv = .string sk ∧ nv = .int .i64 k ∧ k + sk.size ≤ s.size ∧ k + Lib.countB sk sub = Lib.countB s sub) (fun sv _ => match sv with | .string x => x.size | _ => 0)
  case atStart => exact ⟨s, 0, rfl, rfl, by omega, by omega⟩
  case round =>
    obtain ⟨sk, k, rfl, rfl, hk, hc⟩ := hrel
    rcases Lib.indexB_cases sk sub with hix | ⟨i, hix, hroom⟩
    · go_wp2_with (go_at_call 75; refine (gIndex _ _ _ (by omega)).mono ?_; rintro e w' ⟨rfl, rfl⟩; rw [show Lib.index sk.data.toList sub.data.toList = _ from hix])
      go_ret
      refine ⟨?_, rfl⟩
      have e0 := Lib.countB_miss sk sub hix
      have : Lib.countB s sub = k := by omega
      rw [this]
      rfl
    · have c0 : (((i : Nat) : Int) == -1) = false := beq_eq_false_iff_ne.2 (by omega)
      have c3 : (0 : Int) ≤ ↑i + ↑sub.size := by omega
      have c4 : (↑i + ↑sub.size : Int) ≤ ↑sk.size := by omega
      go_wp2_with (go_at_call 75; refine (gIndex _ _ _ (by omega)).mono ?_; rintro e w' ⟨rfl, rfl⟩; rw [show Lib.index sk.data.toList sub.data.toList = _ from hix])
      have e1 := Lib.countB_hit sk sub i (by omega) hix
      have e2 : (sk.extract (i + sub.size) sk.size).size = sk.size - (i + sub.size) := by rw [ByteArray.size_extract]; omega
      refine ⟨⟨sk.extract (i + sub.size) sk.size, k + 1, rfl, by push_cast; rfl, by omega, by omega⟩, ?_⟩
      show (sk.extract (i + sub.size) sk.size).size < sk.size
      omega

/-- gostrings.Count at whatever text that is not empty. -/
theorem gCount (s sep : ByteArray) (w : World) (hs : s.size < 4294967281) (h1 : 1 ≤ sep.size) :
    Calls Tryd.prog 74 #[.string s, .string sep] w fun e w' => e = .returned (.int .i64 (Lib.countB s sep)) ∧ w' = w := by
  by_cases h : sep.size = 1
  · obtain ⟨c, rfl⟩ := Lib.one_byte sep h
    refine (gCount_one s c w hs).mono fun e w' ⟨he, hw⟩ => ⟨?_, hw⟩
    rw [he]
    show _ = Ending.returned (Value.int .i64 ((Lib.count s.data.toList [c] : Nat) : Int))
    rw [Lib.count_one]
    rfl
  · exact gCount_long s sep w hs (by omega)
end Go.Proofs.YtblaldahhhokmaaDoor

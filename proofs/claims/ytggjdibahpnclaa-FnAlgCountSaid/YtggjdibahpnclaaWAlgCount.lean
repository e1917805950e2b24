/- The walk of FnAlgCount. -/
import Derived.Test.YtggjdibahpnclaaByt
import Derived.Test.YtggjdibahpnclaaWStrIndexByte
namespace Go.Proofs.Ytggjdibahpnclaa
open Go.RowKit Go.Lib

/-- How often c stands among the first k bytes. -/
def cnt (s : ByteArray) (c : Int) (k : Nat) : Nat := (s.data.toList.take k).count c.toNat.toUInt8
theorem cnt_le (s : ByteArray) (c : Int) (k : Nat) : cnt s c k ≤ k := Nat.le_trans List.count_le_length (List.length_take_le _ _)
theorem cnt_hit (s : ByteArray) (k : Nat) (hk : k < s.size) (c : Int) (h0 : 0 ≤ c) (h1 : c ≤ 255) (h : (s[k].toNat : Int) = c) : cnt s c (k + 1) = cnt s c k + 1 := by
  unfold cnt
  rw [List.take_add_one, at_eq s k hk c h0 h1 h, List.count_append]; simp
theorem cnt_miss (s : ByteArray) (k : Nat) (hk : k < s.size) (c : Int) (h0 : 0 ≤ c) (h1 : c ≤ 255) (h : ¬ (s[k].toNat : Int) = c) : cnt s c (k + 1) = cnt s c k := by
  have hn := at_ne s k hk c h0 h1 h
  rw [byte_at s k hk] at hn
  unfold cnt
  rw [List.take_add_one, byte_at s k hk, List.count_append]
  have : List.count c.toNat.toUInt8 (some s[k]).toList = 0 := by
    rw [List.count_eq_zero]; intro hm; apply hn
    simpa using congrArg some (List.mem_singleton.1 hm).symm
  omega
theorem cnt_all (s : ByteArray) (c : Int) (k : Nat) (hk : k = s.size) : cnt s c k = cnt s c s.size := by rw [hk]

set_option maxHeartbeats 400000 in
theorem CountString (s : ByteArray) (c : Int) (w : World) (h0 : 0 ≤ c) (h1 : c ≤ 255) (hs : s.size < 4294967281) :
    Calls Try.prog 45 #[.string s, .int .u8 c] w fun e w' => e = .returned (.int .i64 (cnt s c s.size)) ∧ w = w' := by
  go_enter Try.func45, Try.ntmps45
  go_wp2
  go_loop [5, 6] (fun n i => ∃ k m : Nat, k ≤ s.size ∧ i = .int .i64 k ∧ n = .int .i64 m ∧ m ≤ k ∧ Hid (m = cnt s c k)) (fun _ i => s.size - (RowKit.intOf i).toNat)
  case atStart => exact ⟨0, 0, Nat.zero_le _, rfl, rfl, Nat.le_refl _, by show 0 = _; simp [cnt]⟩
  case round =>
    obtain ⟨k, m, hk, rfl, rfl, hm, hn⟩ := hrel
    by_cases hlt : k < s.size
    · by_cases heq : (s[k].toNat : Int) = c
      · have hb : ((s[k].toNat : Int) == c) = true := by simpa using heq
        have H := Lib.hid heq
        clear heq
        go_wp2
        go_round
        case rel => exact ⟨k + 1, m + 1, by omega, by go_num, by go_num, by omega, by show _ = _; rw [cnt_hit s k hlt c h0 h1 H.out, hn.out]⟩
        case measure => simp [RowKit.intOf]; omega
      · have hb : ((s[k].toNat : Int) == c) = false := by simpa using heq
        have H := Lib.hid heq
        clear heq
        go_wp2
        go_round
        case rel => exact ⟨k + 1, m, by omega, by go_num, rfl, by omega, by show _ = _; rw [cnt_miss s k hlt c h0 h1 H.out, hn.out]⟩
        case measure => simp [RowKit.intOf]; omega
    · go_wp2
      go_ret
      exact ⟨ret_int (by rw [hn.out, cnt_all s c k (by omega)]), rfl⟩

set_option maxHeartbeats 400000 in
theorem SeCountByte (s : ByteArray) (c : Int) (w : World) (h0 : 0 ≤ c) (h1 : c ≤ 255) (hs : s.size < 4294967281) :
    Calls Try.prog 19 #[.string s, .int .u8 c] w fun e w' => e = .returned (.int .i64 (cnt s c s.size)) ∧ w = w' := by
  go_enter Try.func19, Try.ntmps19
  go_wp2
  go_loop [5, 6] (fun n i => ∃ k m : Nat, k ≤ s.size ∧ i = .int .i64 k ∧ n = .int .i64 m ∧ m ≤ k ∧ Hid (m = cnt s c k)) (fun _ i => s.size - (RowKit.intOf i).toNat)
  case atStart => exact ⟨0, 0, Nat.zero_le _, rfl, rfl, Nat.le_refl _, by show 0 = _; simp [cnt]⟩
  case round =>
    obtain ⟨k, m, hk, rfl, rfl, hm, hn⟩ := hrel
    by_cases hlt : k < s.size
    · by_cases heq : (s[k].toNat : Int) = c
      · have hb : ((s[k].toNat : Int) == c) = true := by simpa using heq
        have H := Lib.hid heq
        clear heq
        go_wp2
        go_round
        case rel => exact ⟨k + 1, m + 1, by omega, by go_num, by go_num, by omega, by show _ = _; rw [cnt_hit s k hlt c h0 h1 H.out, hn.out]⟩
        case measure => simp [RowKit.intOf]; omega
      · have hb : ((s[k].toNat : Int) == c) = false := by simpa using heq
        have H := Lib.hid heq
        clear heq
        go_wp2
        go_round
        case rel => exact ⟨k + 1, m, by omega, by go_num, rfl, by omega, by show _ = _; rw [cnt_miss s k hlt c h0 h1 H.out, hn.out]⟩
        case measure => simp [RowKit.intOf]; omega
    · go_wp2
      go_ret
      exact ⟨ret_int (by rw [hn.out, cnt_all s c k (by omega)]), rfl⟩

set_option maxHeartbeats 400000 in
theorem CountB (s : ByteArray) (c : Int) (b o cap : Nat) (w : World) (h0 : 0 ≤ c) (h1 : c ≤ 255) (hs : s.size < 4294967281) (hB : Hid (Lib.Bytes w b o s)) :
    Calls Try.prog 44 #[.slice (some ⟨b, o, none⟩) s.size cap, .int .u8 c] w fun e w' => e = .returned (.int .i64 (cnt s c s.size)) ∧ w = w' := by
  go_enter Try.func44, Try.ntmps44
  go_wp2
  go_loop [5, 7, 10] (fun n _ i => ∃ k m : Nat, k ≤ s.size ∧ i = .int .i64 k ∧ n = .int .i64 m ∧ m ≤ k ∧ Hid (m = cnt s c k)) (fun _ _ i => s.size - (RowKit.intOf i).toNat)
  case atStart => exact ⟨0, 0, Nat.zero_le _, rfl, rfl, Nat.le_refl _, by show 0 = _; simp [cnt]⟩
  case round =>
    obtain ⟨k, m, hk, rfl, rfl, hm, hn⟩ := hrel
    by_cases hlt : k < s.size
    · have hcell := hB.out k hlt
      by_cases heq : (s[k].toNat : Int) = c
      · have hb : ((s[k].toNat : Int) == c) = true := by simpa using heq
        have H := Lib.hid heq
        clear heq
        go_wp2
        go_round
        case rel => exact ⟨k + 1, m + 1, by omega, by go_num, by go_num, by omega, by show _ = _; rw [cnt_hit s k hlt c h0 h1 H.out, hn.out]⟩
        case measure => simp [RowKit.intOf]; omega
      · have hb : ((s[k].toNat : Int) == c) = false := by simpa using heq
        have H := Lib.hid heq
        clear heq
        go_wp2
        go_round
        case rel => exact ⟨k + 1, m, by omega, by go_num, rfl, by omega, by show _ = _; rw [cnt_miss s k hlt c h0 h1 H.out, hn.out]⟩
        case measure => simp [RowKit.intOf]; omega
    · go_wp2
      go_ret
      exact ⟨ret_int (by rw [hn.out, cnt_all s c k (by omega)]), rfl⟩

set_option maxHeartbeats 400000 in
theorem AlgCount (s : ByteArray) (c : Int) (b o cap : Nat) (w : World) (h0 : 0 ≤ c) (h1 : c ≤ 255) (hs : s.size < 4294967281) (hB : Hid (Lib.Bytes w b o s)) :
    Calls Try.prog 20 #[.slice (some ⟨b, o, none⟩) s.size cap, .int .u8 c] w fun e w' => e = .returned (.int .i64 (cnt s c s.size)) ∧ Below w.heap.size w w' := by
  go_enter Try.func20, Try.ntmps20
  go_wp2_with fail
  refine (CloneB s b o cap _ hs hB).mono ?_
  rintro e w1 ⟨g1, c1, rfl, hg1, hl1, hc1, hB1, bel1⟩
  have HB1 := Lib.hid hB1
  clear hB1
  go_wp2_with fail
  refine (CountB s c g1 0 c1 _ h0 h1 hs HB1).mono ?_
  rintro e w3 ⟨rfl, rfl⟩
  go_wp2
  go_ret
  exact ⟨rfl, bel1⟩

set_option maxHeartbeats 400000 in
theorem AlgCountString (s : ByteArray) (c : Int) (w : World) (h0 : 0 ≤ c) (h1 : c ≤ 255) (hs : s.size < 4294967281) :
    Calls Try.prog 21 #[.string s, .int .u8 c] w fun e w' => e = .returned (.int .i64 (cnt s c s.size)) ∧ w = w' := by
  go_enter Try.func21, Try.ntmps21
  go_wp2_with fail
  refine (CountString s c _ h0 h1 hs).mono ?_
  rintro e w3 ⟨rfl, rfl⟩
  go_wp2
  go_ret
  exact ⟨rfl, rfl⟩

set_option maxHeartbeats 2000000 in
theorem walk_FnAlgCount (a : ByteArray) (c : Int) (w : World) (ha : a.size ≤ maxLen) (hc : (Lit.int .u8 c).wf = true) :
    Calls Try.prog 6 #[.string a, .int .u8 c] w fun e w' => e = .returned (.bool true) ∧ Below w.heap.size w w' := by
  unfold maxLen at ha
  obtain ⟨h0, h1⟩ := wf_u8 hc
  by_cases hbig : 2147483647 < a.size
  · go_enter Try.func6, Try.ntmps6
    go_wp2
    go_ret
    exact ⟨rfl, Below.refl _ _⟩
  · obtain ⟨c1, W1, k1, C1⟩ := cvB w a
    have HA := Lib.hid C1.bytes
    have bel := Lib.hid C1.below
    clear C1
    go_enter Try.func6, Try.ntmps6
    go_wp2_with fail
    refine (SeCountByte a c _ h0 h1 (by omega)).mono ?_
    rintro e w2 ⟨rfl, rfl⟩
    obtain ⟨n, hn⟩ : ∃ n, n = cnt a c a.size := ⟨_, rfl⟩
    rw [← hn]
    go_wp2_with fail
    refine (AlgCount a c _ 0 c1 _ h0 h1 (by omega) HA).mono ?_
    rintro e w3 ⟨rfl, bel3⟩
    rw [← hn]
    have q1 : ((n : Int) == n) = true := by simp
    go_wp2_with fail
    refine (AlgCountString a c _ h0 h1 (by omega)).mono ?_
    rintro e w4 ⟨rfl, rfl⟩
    rw [← hn]
    go_wp2_with fail
    refine (AlgCountString ⟨#[97, 98]⟩ 98 _ (by omega) (by omega) (by decide)).mono ?_
    rintro e w4 ⟨rfl, rfl⟩
    have e2 : cnt ⟨#[97, 98]⟩ 98 (ByteArray.size ⟨#[97, 98]⟩) = 1 := by decide
    go_wp2_with fail
    go_ret
    exact ⟨rfl, bel.out.trans (bel3.mono bel.out.size)⟩
end Go.Proofs.Ytggjdibahpnclaa

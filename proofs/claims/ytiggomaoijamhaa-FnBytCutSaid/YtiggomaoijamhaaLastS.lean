/- gostrings.LastIndex (the shelf's walks turned to this program's copies by mkLastS.py). -/
import Derived.Test.YtiggomaoijamhaaBas
import Derived.Shelf.Strings.LastIndexAll
namespace Go.Proofs.Ytiggomaoijamhaa
open Go.RowKit Go.Lib

set_option maxHeartbeats 4000000 in
theorem hashStrRev (sep : ByteArray) (hs : sep.size < 4611686018427387904) (w : World) :
    Calls Try.prog 42 #[.string sep] w fun e w' => e = .returned (.tuple #[.int .u32 (RK.H sep.data.toList.reverse % 4294967296), .int .u32 (16777619 ^ sep.size % 4294967296)]) ∧ w' = w := by
  go_enter Try.func42, Try.ntmps42
  go_wp2
  go_loop [4, 5] (fun vh vi => ∃ (k : Nat) (h : Int), k ≤ sep.size ∧ vi = .int .i64 ((k : Int) - 1) ∧ vh = .int .u32 h ∧ Hid (h = RK.H (sep.data.toList.drop k).reverse % 4294967296)) (fun _ vi => ((RowKit.intOf vi) + 1).toNat)
  case atStart => exact ⟨sep.size, 0, Nat.le_refl _, rfl, rfl, by show (0 : Int) = _; rw [List.drop_of_length_le (by simp)]; rfl⟩
  case round =>
    obtain ⟨k, h, hk, rfl, rfl, hh⟩ := hrel
    go_wp2
    · have k1 : 1 ≤ k := by omega
      go_round
      case rel => exact ⟨k - 1, _, by omega, by congr 1; omega, rfl, LastIndex.hashrev_step sep k k1 hk hh.out⟩
      case measure => simp [RowKit.intOf]; omega
    · have hk2 : k = 0 := by omega
      subst hk2
      go_loop [6, 7, 8] (fun vp vq vi => ∃ (i : Nat) (pw sq : Int), vi = .int .i64 i ∧ vp = .int .u32 pw ∧ vq = .int .u32 sq ∧ 0 ≤ pw ∧ pw < 4294967296 ∧ i ≤ sep.size ∧ Hid (RK.PowInv sep.size i pw sq)) (fun _ _ vi => (RowKit.intOf vi).toNat)
      case atStart => exact ⟨sep.size, 1, 16777619, rfl, rfl, rfl, by omega, by omega, Nat.le_refl _, RK.pow_start _⟩
      case round =>
        obtain ⟨i, pw, sq, rfl, rfl, rfl, p0, p1, hi, hinv⟩ := hrel
        have ea := and_one i (by omega)
        go_wp2
        · have ht : ((i : Int) % 2 != 0) = true := by assumption
          have ho : i % 2 = 1 := by simp at ht; omega
          go_round
          case rel => exact ⟨i / 2, _, _, by first | go_num | (congr 1; omega), rfl, rfl, by omega, by omega, by omega, RK.pow_odd hinv.out ho⟩
          case measure => simp [RowKit.intOf]; omega
        · have ht : ((i : Int) % 2 != 0) = false := by assumption
          have he : i % 2 = 0 := by simp at ht; omega
          go_round
          case rel => exact ⟨i / 2, _, _, by first | go_num | (congr 1; omega), rfl, rfl, p0, p1, by omega, RK.pow_even hinv.out he⟩
          case measure => simp [RowKit.intOf]; omega
        · have hi0 : i = 0 := by omega
          subst hi0
          have e1 : h = RK.H sep.data.toList.reverse % 4294967296 := by
            have := hh.out
            rwa [List.drop_zero] at this
          have e2 := RK.pow_end hinv.out p0 p1
          go_ret2
          rw [← e1, ← e2]
          exact ⟨rfl, rfl⟩

set_option maxHeartbeats 16000000 in
theorem LastIndexRabinKarp (s sep : ByteArray) (h1 : 1 ≤ sep.size) (h2 : sep.size ≤ s.size) (hs : s.size < 4611686018427387904) (w : World) :
    Calls Try.prog 29 #[.string s, .string sep] w fun e w' => e = .returned (.int .i64 (Lib.lastIndex s.data.toList sep.data.toList)) ∧ w' = w := by
  obtain ⟨hh, Hh⟩ : ∃ hh : Int, hh = RK.H sep.data.toList.reverse % 4294967296 := ⟨_, rfl⟩
  obtain ⟨pw, Hp⟩ : ∃ pw : Int, pw = 16777619 ^ sep.size % 4294967296 := ⟨_, rfl⟩
  have hc : ∀ w, Calls Try.prog 42 #[.string sep] w fun e w' => e = .returned (.tuple #[.int .u32 hh, .int .u32 pw]) ∧ w' = w := fun w => by rw [Hh, Hp]; exact hashStrRev sep (by omega) w
  have HH := hid Hh
  have HP := hid Hp
  clear Hh Hp
  obtain ⟨last, hlast⟩ : ∃ last : Nat, last + sep.size = s.size := ⟨s.size - sep.size, by omega⟩
  have elast : (s.size : Int) - sep.size = last := by omega
  have HL : Hid (Lib.lastIndex s.data.toList sep.data.toList = Lib.lastOcc s.data.toList sep.data.toList (last + 1)) := by
    show _ = _
    unfold Lib.lastIndex
    rw [if_pos (by simp; omega)]
    congr 1
    simp; omega
  go_enter Try.func29, Try.ntmps29
  go_wp2_with (go_at_call 42; refine (hc _).mono ?_; rintro e w' ⟨rfl, rfl⟩)
  go_loop [9, 10] (fun vh vi => ∃ (k : Nat) (h : Int), last ≤ k ∧ k ≤ s.size ∧ vi = .int .i64 ((k : Int) - 1) ∧ vh = .int .u32 h ∧ Hid (h = RK.H (s.data.toList.drop k).reverse % 4294967296)) (fun _ vi => ((RowKit.intOf vi) + 1).toNat)
  case atStart => exact ⟨s.size, 0, by omega, Nat.le_refl _, rfl, rfl, by show (0 : Int) = _; rw [List.drop_of_length_le (by simp)]; rfl⟩
  case round =>
    obtain ⟨k, h, hk1, hk, rfl, rfl, hk2⟩ := hrel
    go_wp2
    · -- the first loop goes on
      have k1 : 1 ≤ k := by omega
      refine ⟨⟨k - 1, _, by omega, by omega, by congr 1; omega, rfl, LastIndex.hashrev_step s k k1 hk hk2.out⟩, ?_⟩
      simp [RowKit.intOf]; omega
    · -- the last window is the needle: 'return last'
      have hcmp : ((s.extract last s.size).toList == sep.toList) = true := by assumption
      go_ret
      have ho := occ_yes s sep last (by omega) (by rw [hlast]; exact hcmp)
      rw [HL.out, Lib.lastOcc_hit _ _ last ho]
      exact ⟨rfl, rfl⟩
    · -- the hashes are one, the strings part
      have hcmp : ((s.extract last s.size).toList == sep.toList) = false := by assumption
      have ehh : h = hh := by assumption
      subst ehh
      have hkl : k = last := by omega
      subst hkl
      have hwin : h = RK.H (RK.win s.data.toList k sep.size).reverse % 4294967296 := by
        have := hk2.out
        rwa [show s.data.toList.drop k = RK.win s.data.toList k sep.size from (List.take_of_length_le (by simp; omega)).symm] at this
      have hno : occAt s.data.toList sep.data.toList k = false := occ_no s sep k (by omega) (by rw [hlast]; exact hcmp)
      have HL2 : Hid (Lib.lastIndex s.data.toList sep.data.toList = Lib.lastOcc s.data.toList sep.data.toList k) := HL.out.trans (Lib.lastOcc_miss _ _ k hno)
      have Hwin := hid hwin
      clear hk2 hwin hno HL
      go_loop [9, 11] (fun vh vi => ∃ (j : Nat) (g : Int), j ≤ k ∧ vi = .int .i64 ((j : Int) - 1) ∧ vh = .int .u32 g ∧ Hid (g = RK.H (RK.win s.data.toList j sep.size).reverse % 4294967296) ∧ Hid (Lib.lastIndex s.data.toList sep.data.toList = Lib.lastOcc s.data.toList sep.data.toList j)) (fun _ vi => ((RowKit.intOf vi) + 1).toNat)
      case atStart => exact ⟨k, _, Nat.le_refl _, rfl, rfl, Hwin, HL2⟩
      case round =>
        obtain ⟨j, g, hj, rfl, rfl, hg, hl⟩ := hrel
        by_cases hj1 : 1 ≤ j
        · have hsl : ∀ w, (Instr.slice 9 (.string s) (some (.int .i64 ((j : Int) - 1))) (some (.int .i64 ((j : Int) - 1 + sep.size))) none).run Try.prog w = .ok (.string (s.extract (j - 1) (j - 1 + sep.size))) w := fun w => by
            rw [run_slice_string w 9 s .i64 .i64 _ _ Try.underlying9 (by omega) (by omega) (by omega), show ((j : Int) - 1).toNat = j - 1 by omega, show ((j : Int) - 1 + sep.size).toNat = j - 1 + sep.size by omega]
          have ej : j - 1 + 1 = j := by omega
          have hg' : g = RK.H (RK.win s.data.toList (j - 1 + 1) sep.size).reverse % 4294967296 := by rw [ej]; exact hg.out
          have HR := hid (LastIndex.rollrev_step s sep.size (j - 1) h1 (by omega) hg' HP.out)
          clear hg'
          go_wp2
          · -- A HIT: 'return i'
            have hcmp : ((s.extract (j - 1) (j - 1 + sep.size)).toList == sep.toList) = true := by assumption
            have ho := occ_yes s sep (j - 1) (by omega) hcmp
            have e3 : Lib.lastOcc s.data.toList sep.data.toList j = ((j - 1 : Nat) : Int) := by
              have := Lib.lastOcc_hit _ _ (j - 1) ho
              rwa [ej] at this
            have e4 : ((j - 1 : Nat) : Int) = (j : Int) - 1 := by omega
            go_ret
            rw [hl.out, e3, e4]
            exact ⟨rfl, rfl⟩
          · -- the hashes are one, the strings part
            have hcmp : ((s.extract (j - 1) (j - 1 + sep.size)).toList == sep.toList) = false := by assumption
            have hn := occ_no s sep (j - 1) (by omega) hcmp
            have e3 : Lib.lastOcc s.data.toList sep.data.toList j = Lib.lastOcc s.data.toList sep.data.toList (j - 1) := by
              have := Lib.lastOcc_miss _ _ (j - 1) hn
              rwa [ej] at this
            have heq : (g * 16777619 + ((s[j - 1]).toNat : Int) - pw * (((s[j - 1 + sep.size]).toNat : Int) % 4294967296)) % 4294967296 = h := by assumption
            go_round
            case rel => exact ⟨j - 1, _, by omega, by congr 1; omega, rfl, heq.symm.trans HR.out, hl.out.trans e3⟩
            case measure => simp [RowKit.intOf]; omega
          · -- the hashes part
            have hne : ¬ (g * 16777619 + ((s[j - 1]).toNat : Int) - pw * (((s[j - 1 + sep.size]).toNat : Int) % 4294967296)) % 4294967296 = h := by assumption
            have hn := LastIndex.occ_no_hashrev s sep (j - 1) (by omega) HR.out HH.out hne
            have e3 : Lib.lastOcc s.data.toList sep.data.toList j = Lib.lastOcc s.data.toList sep.data.toList (j - 1) := by
              have := Lib.lastOcc_miss _ _ (j - 1) hn
              rwa [ej] at this
            refine ⟨⟨j - 1, _, by omega, by congr 1; omega, rfl, HR.out, hl.out.trans e3⟩, ?_⟩
            simp [RowKit.intOf]; omega
        · -- 'return -1'
          have j0 : j = 0 := by omega
          subst j0
          go_wp2
          go_ret
          rw [hl.out]
          exact ⟨rfl, rfl⟩

    · -- the hashes part
      have hne0 : ¬ h = hh := by assumption
      have hkl : k = last := by omega
      subst hkl
      have hwin : h = RK.H (RK.win s.data.toList k sep.size).reverse % 4294967296 := by
        have := hk2.out
        rwa [show s.data.toList.drop k = RK.win s.data.toList k sep.size from (List.take_of_length_le (by simp; omega)).symm] at this
      have hno : occAt s.data.toList sep.data.toList k = false := LastIndex.occ_no_hashrev s sep k (by omega) hwin HH.out hne0
      have HL2 : Hid (Lib.lastIndex s.data.toList sep.data.toList = Lib.lastOcc s.data.toList sep.data.toList k) := HL.out.trans (Lib.lastOcc_miss _ _ k hno)
      have Hwin := hid hwin
      clear hk2 hwin hno HL
      go_loop [9, 11] (fun vh vi => ∃ (j : Nat) (g : Int), j ≤ k ∧ vi = .int .i64 ((j : Int) - 1) ∧ vh = .int .u32 g ∧ Hid (g = RK.H (RK.win s.data.toList j sep.size).reverse % 4294967296) ∧ Hid (Lib.lastIndex s.data.toList sep.data.toList = Lib.lastOcc s.data.toList sep.data.toList j)) (fun _ vi => ((RowKit.intOf vi) + 1).toNat)
      case atStart => exact ⟨k, _, Nat.le_refl _, rfl, rfl, Hwin, HL2⟩
      case round =>
        obtain ⟨j, g, hj, rfl, rfl, hg, hl⟩ := hrel
        by_cases hj1 : 1 ≤ j
        · have hsl : ∀ w, (Instr.slice 9 (.string s) (some (.int .i64 ((j : Int) - 1))) (some (.int .i64 ((j : Int) - 1 + sep.size))) none).run Try.prog w = .ok (.string (s.extract (j - 1) (j - 1 + sep.size))) w := fun w => by
            rw [run_slice_string w 9 s .i64 .i64 _ _ Try.underlying9 (by omega) (by omega) (by omega), show ((j : Int) - 1).toNat = j - 1 by omega, show ((j : Int) - 1 + sep.size).toNat = j - 1 + sep.size by omega]
          have ej : j - 1 + 1 = j := by omega
          have hg' : g = RK.H (RK.win s.data.toList (j - 1 + 1) sep.size).reverse % 4294967296 := by rw [ej]; exact hg.out
          have HR := hid (LastIndex.rollrev_step s sep.size (j - 1) h1 (by omega) hg' HP.out)
          clear hg'
          go_wp2
          · -- A HIT: 'return i'
            have hcmp : ((s.extract (j - 1) (j - 1 + sep.size)).toList == sep.toList) = true := by assumption
            have ho := occ_yes s sep (j - 1) (by omega) hcmp
            have e3 : Lib.lastOcc s.data.toList sep.data.toList j = ((j - 1 : Nat) : Int) := by
              have := Lib.lastOcc_hit _ _ (j - 1) ho
              rwa [ej] at this
            have e4 : ((j - 1 : Nat) : Int) = (j : Int) - 1 := by omega
            go_ret
            rw [hl.out, e3, e4]
            exact ⟨rfl, rfl⟩
          · -- the hashes are one, the strings part
            have hcmp : ((s.extract (j - 1) (j - 1 + sep.size)).toList == sep.toList) = false := by assumption
            have hn := occ_no s sep (j - 1) (by omega) hcmp
            have e3 : Lib.lastOcc s.data.toList sep.data.toList j = Lib.lastOcc s.data.toList sep.data.toList (j - 1) := by
              have := Lib.lastOcc_miss _ _ (j - 1) hn
              rwa [ej] at this
            have heq : (g * 16777619 + ((s[j - 1]).toNat : Int) - pw * (((s[j - 1 + sep.size]).toNat : Int) % 4294967296)) % 4294967296 = hh := by assumption
            go_round
            case rel => exact ⟨j - 1, _, by omega, by congr 1; omega, rfl, heq.symm.trans HR.out, hl.out.trans e3⟩
            case measure => simp [RowKit.intOf]; omega
          · -- the hashes part
            have hne : ¬ (g * 16777619 + ((s[j - 1]).toNat : Int) - pw * (((s[j - 1 + sep.size]).toNat : Int) % 4294967296)) % 4294967296 = hh := by assumption
            have hn := LastIndex.occ_no_hashrev s sep (j - 1) (by omega) HR.out HH.out hne
            have e3 : Lib.lastOcc s.data.toList sep.data.toList j = Lib.lastOcc s.data.toList sep.data.toList (j - 1) := by
              have := Lib.lastOcc_miss _ _ (j - 1) hn
              rwa [ej] at this
            refine ⟨⟨j - 1, _, by omega, by congr 1; omega, rfl, HR.out, hl.out.trans e3⟩, ?_⟩
            simp [RowKit.intOf]; omega
        · -- 'return -1'
          have j0 : j = 0 := by omega
          subst j0
          go_wp2
          go_ret
          rw [hl.out]
          exact ⟨rfl, rfl⟩


/-! ### The four arms that ask no hash agree with 'Lib.lastIndex' -/

set_option maxHeartbeats 4000000 in
theorem LastIndexByteString (s : ByteArray) (c : Int) (hs : s.size < 4611686018427387904) (w : World) :
    Calls Try.prog 41 #[.string s, .int .u8 c] w fun e w' => e = .returned (.int .i64 (Lib.lastIndexByte s c)) ∧ w' = w := by
  go_enter Try.func41, Try.ntmps41
  go_wp2
  go_loop [5] (fun vi => ∃ k : Nat, k ≤ s.size ∧ vi = .int .i64 ((k : Int) - 1) ∧ Hid (Lib.lastIndexByte s c = Lib.lastIdx s c k)) (fun vi => ((RowKit.intOf vi) + 1).toNat)
  case atStart => exact ⟨s.size, Nat.le_refl _, by first | rfl | go_num | (congr 1; omega), rfl⟩
  case round =>
    obtain ⟨k, hk, rfl, hh⟩ := hrel
    go_wp2
    · -- s[i] == c: 'return i'
      have hc : (((s[k - 1]).toNat : Int) == c) = true := by assumption
      have k1 : 1 ≤ k := by omega
      have e1 : Lib.lastIdx s c k = ((k - 1 : Nat) : Int) := by
        have := Lib.lastIdx_hit s c (k - 1) (by rw [LastIndex.byteBang s (k - 1) (by omega)]; simpa using hc)
        rwa [show k - 1 + 1 = k by omega] at this
      have e2 : ((k - 1 : Nat) : Int) = (k : Int) - 1 := by omega
      go_ret
      rw [hh.out, e1, e2]
      exact ⟨rfl, rfl⟩
    · -- s[i] != c: 'i--'
      have hc : (((s[k - 1]).toNat : Int) == c) = false := by assumption
      have k1 : 1 ≤ k := by omega
      have e1 : Lib.lastIdx s c k = Lib.lastIdx s c (k - 1) := by
        have := Lib.lastIdx_miss s c (k - 1) (by rw [LastIndex.byteBang s (k - 1) (by omega)]; simpa using hc)
        rwa [show k - 1 + 1 = k by omega] at this
      refine ⟨⟨k - 1, by omega, by congr 1; omega, hh.out.trans e1⟩, ?_⟩
      simp [RowKit.intOf]; omega
    · -- i < 0: 'return -1'
      have k0 : k = 0 := by omega
      subst k0
      go_ret
      rw [hh.out]
      exact ⟨rfl, rfl⟩

theorem gLast_one (s sub : ByteArray) (h1 : sub.size = 1) (hs : s.size < 4611686018427387904) (w : World) :
    Calls Try.prog 28 #[.string s, .string sub] w fun e w' => e = .returned (.int .i64 (Lib.lastIndexByte s ((sub[0]'(by omega)).toNat : Int))) ∧ w' = w := by
  go_enter Try.func28, Try.ntmps28
  go_wp2_with (go_at_call 41; refine (LastIndexByteString _ _ hs _).mono ?_; rintro e w' ⟨rfl, rfl⟩)
  go_ret
  exact ⟨rfl, rfl⟩

theorem gLast_empty (s sub : ByteArray) (h0 : sub.size = 0) (w : World) :
    Calls Try.prog 28 #[.string s, .string sub] w fun e w' => e = .returned (.int .i64 s.size) ∧ w' = w := by
  go_enter Try.func28, Try.ntmps28
  go_wp2
  go_ret
  exact ⟨rfl, rfl⟩

theorem gLast_longer (s sub : ByteArray) (h2 : 2 ≤ sub.size) (hl : s.size < sub.size) (w : World) :
    Calls Try.prog 28 #[.string s, .string sub] w fun e w' => e = .returned (.int .i64 (-1)) ∧ w' = w := by
  go_enter Try.func28, Try.ntmps28
  go_wp2
  all_goals first | (go_ret; exact ⟨rfl, rfl⟩) | (exfalso; omega)

theorem gLast_whole (s sub : ByteArray) (h2 : 2 ≤ sub.size) (hl : sub.size = s.size) (w : World) :
    Calls Try.prog 28 #[.string s, .string sub] w fun e w' => e = .returned (.int .i64 (if sub = s then 0 else -1)) ∧ w' = w := by
  go_enter Try.func28, Try.ntmps28
  go_wp2
  all_goals first
    | (go_ret; exact ⟨rfl, rfl⟩)
    | (exfalso; have hq : (sub.toList == s.toList) = true := by assumption
       have hn : ¬ sub = s := by assumption
       exact hn (LastIndex.eq_of_toList (by simpa using hq)))
    | (exfalso; have hq : (sub.toList == s.toList) = false := by assumption
       have he : sub = s := by assumption
       subst he; simp at hq)
    | (exfalso; omega)

set_option maxHeartbeats 4000000 in
theorem gLast_hash (s sub : ByteArray) (h2 : 2 ≤ sub.size) (hl : sub.size < s.size) (hs : s.size < 4611686018427387904) (w : World) :
    Calls Try.prog 28 #[.string s, .string sub] w fun e w' => e = .returned (.int .i64 (Lib.lastIndex s.data.toList sub.data.toList)) ∧ w' = w := by
  go_enter Try.func28, Try.ntmps28
  go_wp2_with (go_at_call 29; refine (LastIndexRabinKarp _ _ (by omega) (by omega) hs _).mono ?_; rintro e w' ⟨rfl, rfl⟩)
  all_goals first | (go_ret; exact ⟨rfl, rfl⟩) | (exfalso; omega)

theorem gLast (s sub : ByteArray) (hs : s.size < 4611686018427387904) (w : World) :
    Calls Try.prog 28 #[.string s, .string sub] w fun e w' => e = .returned (.int .i64 (Lib.lastIndex s.data.toList sub.data.toList)) ∧ w' = w := by
  by_cases h0 : sub.size = 0
  · have e : sub.data.toList = [] := List.eq_nil_of_length_eq_zero (by simpa using h0)
    rw [e, LastIndex.nil, show ((s.data.toList.length : Nat) : Int) = (s.size : Int) by simp]
    exact gLast_empty s sub h0 w
  by_cases h1 : sub.size = 1
  · rw [← LastIndex.one s sub h1]
    exact gLast_one s sub h1 (by omega) w
  by_cases hw : sub.size = s.size
  · rw [← LastIndex.whole s sub hw]
    exact gLast_whole s sub (by omega) hw w
  by_cases hg : s.size < sub.size
  · rw [LastIndex.longer _ _ (by simpa using hg)]
    exact gLast_longer s sub (by omega) hg w
  exact gLast_hash s sub (by omega) (by omega) hs w
end Go.Proofs.Ytiggomaoijamhaa

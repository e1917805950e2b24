/- The walk of FnBytIndexByte. -/
import Derived.Test.YtggjdibahpnclaaLast
import Derived.Test.YtggjdibahpnclaaInv
import Derived.Test.YtggjdibahpnclaaWStrIndexByte
namespace Go.Proofs.Ytggjdibahpnclaa
open Go.RowKit Go.Lib

theorem SeLast1 (s : ByteArray) (x : UInt8) (w : World) (hs : s.size < 4294967281) :
    Calls Try.prog 27 #[.string s, .string ⟨#[x]⟩] w fun e w' => e = .returned (.int .i64 (lastB s ⟨#[x]⟩)) ∧ w = w' := SeLast s ⟨#[x]⟩ w hs (by show 1 < _; omega)

set_option maxHeartbeats 4000000 in
set_option maxRecDepth 100000 in
theorem walk_FnBytIndexByte (s : ByteArray) (c : Int) (w : World) (hs : s.size ≤ maxLen) (hc : (Lit.int .u8 c).wf = true) :
    Calls Try.prog 8 #[.string s, .int .u8 c] w fun e w' => e = .returned (.bool true) ∧ Below w.heap.size w w' := by
  unfold maxLen at hs
  obtain ⟨h0, h1⟩ := wf_u8 hc
  by_cases hbig : 2147483647 < s.size
  · go_enter Try.func8, Try.ntmps8
    go_wp2
    go_ret
    exact ⟨rfl, Below.refl _ _⟩
  · have zs : s.size < 4294967281 := by omega
    go_enter Try.func8, Try.ntmps8
    go_wp2_with fail
    refine wp_region_inv (by kernel_rfl) (fun j => [isV (.string s), isB w.heap.size s, isV (.int .u8 c), isV (.int .i64 (Lib.indexByte s.data.toList (UInt8.ofNat c.toNat))), isV (.string s), isV (.int .u8 c), isB w.heap.size ⟨#[UInt8.ofNat c.toNat]⟩, isV (.string ⟨#[UInt8.ofNat c.toNat]⟩), isV (.int .i64 (Lib.indexByte s.data.toList (UInt8.ofNat c.toNat))), isV (.bool true), isV (.bool true), isV (.string s), isB w.heap.size s, isV (.int .u8 c), isV (.int .i64 (lastB s ⟨#[UInt8.ofNat c.toNat]⟩)), isV (.string s), isV (.int .u8 c), isB w.heap.size ⟨#[UInt8.ofNat c.toNat]⟩, isV (.string ⟨#[UInt8.ofNat c.toNat]⟩), isV (.int .i64 (lastB s ⟨#[UInt8.ofNat c.toNat]⟩)), isV (.bool true), isV (.bool true), isV (.bool true), isB w.heap.size ⟨#[97, 98]⟩, isB w.heap.size ⟨#[97, 98]⟩, isV (.int .i64 1), isV (.bool true), isV (.bool true), isV (.bool true)].getD j anyV) (by kernel_rfl) ?steps ?fin
    case steps =>
      refine ⟨?_, ?_, ?_, ?_, ?_, ?_, ?_, ?_, ?_, ?_, ?_, ?_, ?_, ?_, ?_, ?_, ?_, ?_, ?_, ?_, ?_, ?_, ?_, ?_, ?_, ?_, ?_, ?_, ?_, trivial⟩
      · intro A W hbl hsz hbase hdep
        have E : A.tmps.getD 0 undef = .string s := hbase 0 (by kernel_rfl)
        exact od_move (wanted_none rfl _) rfl E
      · intro A W hbl hsz hbase hdep
        have E : A.tmps.getD 8 undef = .string s := hdep 0 8 (by kernel_rfl) (by kernel_rfl)
        exact od_sb hbl (wanted_none rfl _) rfl E
      · intro A W hbl hsz hbase hdep
        have E : A.tmps.getD 1 undef = .int .u8 c := hbase 1 (by kernel_rfl)
        exact od_move (wanted_none rfl _) rfl E
      · intro A W hbl hsz hbase hdep
        have F0 : HB w.heap.size s (A.tmps.getD 9 undef) W := hdep 1 9 (by kernel_rfl) (by kernel_rfl)
        obtain ⟨g0, c0, E0, L0, N0, G0, Y0, S0⟩ := F0
        have E1 : A.tmps.getD 10 undef = .int .u8 c := hdep 2 10 (by kernel_rfl) (by kernel_rfl)
        refine od_call hbl (wanted_none rfl _) rfl (enters_of Try.func25 (by kernel_rfl) rfl) ?_
        show Calls Try.prog 25 #[A.tmps.getD 9 undef, A.tmps.getD 10 undef] W _
        rw [E0, E1]
        exact (BytIndexByte s c g0 0 c0 W h0 h1 zs (Lib.hid Y0)).mono (fun e w' ⟨he, hb⟩ => ⟨_, he, rfl, hb⟩)
      · intro A W hbl hsz hbase hdep
        have E : A.tmps.getD 0 undef = .string s := hbase 0 (by kernel_rfl)
        exact od_move (wanted_none rfl _) rfl E
      · intro A W hbl hsz hbase hdep
        have E : A.tmps.getD 1 undef = .int .u8 c := hbase 1 (by kernel_rfl)
        exact od_move (wanted_none rfl _) rfl E
      · intro A W hbl hsz hbase hdep
        have E : A.tmps.getD 13 undef = .int .u8 c := hdep 5 13 (by kernel_rfl) (by kernel_rfl)
        exact od_build1 c (by omega) (by omega) hbl (wanted_none rfl _) rfl E
      · intro A W hbl hsz hbase hdep
        have E : HB w.heap.size ⟨#[UInt8.ofNat c.toNat]⟩ (A.tmps.getD 14 undef) W := hdep 6 14 (by kernel_rfl) (by kernel_rfl)
        exact od_bs (wanted_none rfl _) rfl E
      · intro A W hbl hsz hbase hdep
        have E0 : A.tmps.getD 12 undef = .string s := hdep 4 12 (by kernel_rfl) (by kernel_rfl)
        have E1 : A.tmps.getD 15 undef = .string ⟨#[UInt8.ofNat c.toNat]⟩ := hdep 7 15 (by kernel_rfl) (by kernel_rfl)
        refine od_call hbl (wanted_none rfl _) rfl (enters_of Try.func17 (by kernel_rfl) rfl) ?_
        show Calls Try.prog 17 #[A.tmps.getD 12 undef, A.tmps.getD 15 undef] W _
        rw [E0, E1]
        exact (SeFirst1 s _ W zs).mono (fun e w' ⟨he, hb⟩ => ⟨_, he, rfl, by subst hb; exact Below.refl _ _⟩)
      · intro A W hbl hsz hbase hdep
        have E0 : A.tmps.getD 11 undef = .int .i64 (Lib.indexByte s.data.toList (UInt8.ofNat c.toNat)) := hdep 3 11 (by kernel_rfl) (by kernel_rfl)
        have E1 : A.tmps.getD 16 undef = .int .i64 (Lib.indexByte s.data.toList (UInt8.ofNat c.toNat)) := hdep 8 16 (by kernel_rfl) (by kernel_rfl)
        exact od_eql_int Try.underlying3 (wanted_none rfl _) rfl E0 E1
      · intro A W hbl hsz hbase hdep
        have E : A.tmps.getD 17 undef = .bool true := hdep 9 17 (by kernel_rfl) (by kernel_rfl)
        exact od_move (wanted_none rfl _) rfl E
      · intro A W hbl hsz hbase hdep
        have E : A.tmps.getD 0 undef = .string s := hbase 0 (by kernel_rfl)
        exact od_move (wanted_some (g := 10) (s := 18) rfl (by kernel_rfl) _ (Nat.lt_of_lt_of_eq (by decide : 18 < 36) hsz.symm) (hdep 10 18 (by kernel_rfl) (by kernel_rfl))) rfl E
      · intro A W hbl hsz hbase hdep
        have E : A.tmps.getD 19 undef = .string s := hdep 11 19 (by kernel_rfl) (by kernel_rfl)
        exact od_sb hbl (wanted_some (g := 10) (s := 18) rfl (by kernel_rfl) _ (Nat.lt_of_lt_of_eq (by decide : 18 < 36) hsz.symm) (hdep 10 18 (by kernel_rfl) (by kernel_rfl))) rfl E
      · intro A W hbl hsz hbase hdep
        have E : A.tmps.getD 1 undef = .int .u8 c := hbase 1 (by kernel_rfl)
        exact od_move (wanted_some (g := 10) (s := 18) rfl (by kernel_rfl) _ (Nat.lt_of_lt_of_eq (by decide : 18 < 36) hsz.symm) (hdep 10 18 (by kernel_rfl) (by kernel_rfl))) rfl E
      · intro A W hbl hsz hbase hdep
        have F0 : HB w.heap.size s (A.tmps.getD 20 undef) W := hdep 12 20 (by kernel_rfl) (by kernel_rfl)
        obtain ⟨g0, c0, E0, L0, N0, G0, Y0, S0⟩ := F0
        have E1 : A.tmps.getD 21 undef = .int .u8 c := hdep 13 21 (by kernel_rfl) (by kernel_rfl)
        refine od_call hbl (wanted_some (g := 10) (s := 18) rfl (by kernel_rfl) _ (Nat.lt_of_lt_of_eq (by decide : 18 < 36) hsz.symm) (hdep 10 18 (by kernel_rfl) (by kernel_rfl))) rfl (enters_of Try.func26 (by kernel_rfl) rfl) ?_
        show Calls Try.prog 26 #[A.tmps.getD 20 undef, A.tmps.getD 21 undef] W _
        rw [E0, E1]
        exact (BytLastIndexByte s c g0 0 c0 W h0 h1 zs (Lib.hid Y0)).mono (fun e w' ⟨he, hb⟩ => ⟨_, he, rfl, hb⟩)
      · intro A W hbl hsz hbase hdep
        have E : A.tmps.getD 0 undef = .string s := hbase 0 (by kernel_rfl)
        exact od_move (wanted_some (g := 10) (s := 18) rfl (by kernel_rfl) _ (Nat.lt_of_lt_of_eq (by decide : 18 < 36) hsz.symm) (hdep 10 18 (by kernel_rfl) (by kernel_rfl))) rfl E
      · intro A W hbl hsz hbase hdep
        have E : A.tmps.getD 1 undef = .int .u8 c := hbase 1 (by kernel_rfl)
        exact od_move (wanted_some (g := 10) (s := 18) rfl (by kernel_rfl) _ (Nat.lt_of_lt_of_eq (by decide : 18 < 36) hsz.symm) (hdep 10 18 (by kernel_rfl) (by kernel_rfl))) rfl E
      · intro A W hbl hsz hbase hdep
        have E : A.tmps.getD 24 undef = .int .u8 c := hdep 16 24 (by kernel_rfl) (by kernel_rfl)
        exact od_build1 c (by omega) (by omega) hbl (wanted_some (g := 10) (s := 18) rfl (by kernel_rfl) _ (Nat.lt_of_lt_of_eq (by decide : 18 < 36) hsz.symm) (hdep 10 18 (by kernel_rfl) (by kernel_rfl))) rfl E
      · intro A W hbl hsz hbase hdep
        have E : HB w.heap.size ⟨#[UInt8.ofNat c.toNat]⟩ (A.tmps.getD 25 undef) W := hdep 17 25 (by kernel_rfl) (by kernel_rfl)
        exact od_bs (wanted_some (g := 10) (s := 18) rfl (by kernel_rfl) _ (Nat.lt_of_lt_of_eq (by decide : 18 < 36) hsz.symm) (hdep 10 18 (by kernel_rfl) (by kernel_rfl))) rfl E
      · intro A W hbl hsz hbase hdep
        have E0 : A.tmps.getD 23 undef = .string s := hdep 15 23 (by kernel_rfl) (by kernel_rfl)
        have E1 : A.tmps.getD 26 undef = .string ⟨#[UInt8.ofNat c.toNat]⟩ := hdep 18 26 (by kernel_rfl) (by kernel_rfl)
        refine od_call hbl (wanted_some (g := 10) (s := 18) rfl (by kernel_rfl) _ (Nat.lt_of_lt_of_eq (by decide : 18 < 36) hsz.symm) (hdep 10 18 (by kernel_rfl) (by kernel_rfl))) rfl (enters_of Try.func27 (by kernel_rfl) rfl) ?_
        show Calls Try.prog 27 #[A.tmps.getD 23 undef, A.tmps.getD 26 undef] W _
        rw [E0, E1]
        exact (SeLast1 s _ W zs).mono (fun e w' ⟨he, hb⟩ => ⟨_, he, rfl, by subst hb; exact Below.refl _ _⟩)
      · intro A W hbl hsz hbase hdep
        have E0 : A.tmps.getD 22 undef = .int .i64 (lastB s ⟨#[UInt8.ofNat c.toNat]⟩) := hdep 14 22 (by kernel_rfl) (by kernel_rfl)
        have E1 : A.tmps.getD 27 undef = .int .i64 (lastB s ⟨#[UInt8.ofNat c.toNat]⟩) := hdep 19 27 (by kernel_rfl) (by kernel_rfl)
        exact od_eql_int Try.underlying3 (wanted_some (g := 10) (s := 18) rfl (by kernel_rfl) _ (Nat.lt_of_lt_of_eq (by decide : 18 < 36) hsz.symm) (hdep 10 18 (by kernel_rfl) (by kernel_rfl))) rfl E0 E1
      · intro A W hbl hsz hbase hdep
        have C : A.tmps.getD 18 undef = .bool true := hdep 10 18 (by kernel_rfl) (by kernel_rfl)
        have E : A.tmps.getD 28 undef = .bool true := hdep 20 28 (by kernel_rfl) (by kernel_rfl)
        exact od_pick (wanted_none rfl _) rfl C E
      · intro A W hbl hsz hbase hdep
        have E : A.tmps.getD 29 undef = .bool true := hdep 21 29 (by kernel_rfl) (by kernel_rfl)
        exact od_move (wanted_none rfl _) rfl E
      · intro A W hbl hsz hbase hdep
        refine od_run (wanted_some (g := 22) (s := 30) rfl (by kernel_rfl) _ (Nat.lt_of_lt_of_eq (by decide : 30 < 36) hsz.symm) (hdep 22 30 (by kernel_rfl) (by kernel_rfl))) (v := .slice (some ⟨W.heap.size, 0, none⟩) 2 2) (w' := W.alloc (.cells #[.int .u8 97, .int .u8 98] 5)) ?_ (hb_new (s := ⟨#[97, 98]⟩) hbl rfl 2 rfl) (below_w0 hbl ((Below.refl _ _).alloc (Nat.le_refl _) _))
        unfold execOp; simp; go_simp
      · intro A W hbl hsz hbase hdep
        have E : HB w.heap.size ⟨#[97, 98]⟩ (A.tmps.getD 31 undef) W := hdep 23 31 (by kernel_rfl) (by kernel_rfl)
        exact od_bb (wanted_some (g := 22) (s := 30) rfl (by kernel_rfl) _ (Nat.lt_of_lt_of_eq (by decide : 30 < 36) hsz.symm) (hdep 22 30 (by kernel_rfl) (by kernel_rfl))) rfl E
      · intro A W hbl hsz hbase hdep
        have F0 : HB w.heap.size ⟨#[97, 98]⟩ (A.tmps.getD 32 undef) W := hdep 24 32 (by kernel_rfl) (by kernel_rfl)
        obtain ⟨g0, c0, E0, L0, N0, G0, Y0, S0⟩ := F0
        refine od_call hbl (wanted_some (g := 22) (s := 30) rfl (by kernel_rfl) _ (Nat.lt_of_lt_of_eq (by decide : 30 < 36) hsz.symm) (hdep 22 30 (by kernel_rfl) (by kernel_rfl))) rfl (enters_of Try.func25 (by kernel_rfl) rfl) ?_
        show Calls Try.prog 25 #[A.tmps.getD 32 undef, .int .u8 98] W _
        rw [E0]
        exact (BytIndexByte ⟨#[97, 98]⟩ 98 g0 0 c0 W (by omega) (by omega) (by decide) (Lib.hid Y0)).mono (fun e w' ⟨he, hb⟩ => ⟨_, he, rfl, hb⟩)
      · intro A W hbl hsz hbase hdep
        have E0 : A.tmps.getD 33 undef = .int .i64 1 := hdep 25 33 (by kernel_rfl) (by kernel_rfl)
        exact od_eql_int Try.underlying3 (wanted_some (g := 22) (s := 30) rfl (by kernel_rfl) _ (Nat.lt_of_lt_of_eq (by decide : 30 < 36) hsz.symm) (hdep 22 30 (by kernel_rfl) (by kernel_rfl))) rfl E0 rfl
      · intro A W hbl hsz hbase hdep
        have C : A.tmps.getD 30 undef = .bool true := hdep 22 30 (by kernel_rfl) (by kernel_rfl)
        have E : A.tmps.getD 34 undef = .bool true := hdep 26 34 (by kernel_rfl) (by kernel_rfl)
        exact od_pick (wanted_none rfl _) rfl C E
      · intro A W hbl hsz hbase hdep
        have E : A.tmps.getD 35 undef = .bool true := hdep 27 35 (by kernel_rfl) (by kernel_rfl)
        exact od_assign (wanted_none rfl _) rfl E
    case fin =>
      rintro ⟨T, d⟩ w' hbl hdef hsz hbase hall
      obtain rfl : d = [] := hdef
      have e4 : T.getD 4 undef = .bool true := hall 28 4 (by kernel_rfl)
      have HE := Lib.hid e4
      have HL := Lib.hid hbl
      clear hsz hbase hall e4 hbl
      go_wp2
      go_ret
      exact ⟨by rw [HE.out], HL.out⟩
end Go.Proofs.Ytggjdibahpnclaa

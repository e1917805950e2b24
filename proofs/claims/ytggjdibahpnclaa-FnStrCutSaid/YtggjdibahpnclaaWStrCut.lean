/- The walk of FnStrCut. -/
import Derived.Test.YtggjdibahpnclaaCut
import Derived.Test.YtggjdibahpnclaaInvS
namespace Go.Proofs.Ytggjdibahpnclaa
open Go.RowKit Go.Lib

theorem idx_ab : index (ByteArray.mk #[97, 98]).data.toList (ByteArray.mk #[98]).data.toList = ((1 : Nat) : Int) := by decide

set_option maxHeartbeats 2000000 in
theorem cut_no (s sep : ByteArray) (w : World) (hs : s.size ≤ 2147483647) (hp : sep.size ≤ 2147483647) (h : index s.data.toList sep.data.toList = -1) :
    Calls Try.prog 12 #[.string s, .string sep] w fun e w' => e = .returned (.bool true) ∧ Below w.heap.size w w' := by
  have H := Lib.hid h
  clear h
  go_enter Try.func12, Try.ntmps12
  go_wp2_with fail
  refine (SeFirst s sep _ (by omega) (by omega)).mono ?_
  rintro e w1 ⟨rfl, rfl⟩
  rw [H.out]
  go_wp2_with fail
  refine (StrCut_no s sep _ (by omega) H.out).mono ?_
  rintro e w1 ⟨rfl, bel⟩
  unfold PartsOf
  go_wp2_with fail
  refine (StrCut_yes ⟨#[97, 98]⟩ ⟨#[98]⟩ 1 _ (by decide) idx_ab (by decide)).mono ?_
  rintro e w2 ⟨rfl, bel2⟩
  unfold PartsOf
  have hfd : ∀ (p q : ByteArray) (b : Bool) (W : World), (Instr.field 43 (.agg #[.string p, .string q, .bool b]) 2).run Try.prog W = .ok (.bool b) W := fun p q b W => by kernel_rfl
  go_wp2
  go_ret
  exact ⟨rfl, bel.trans (bel2.mono bel.size)⟩

set_option maxHeartbeats 2000000 in
set_option maxRecDepth 100000 in
theorem cut_yes (s sep : ByteArray) (k : Nat) (w : World) (hs : s.size ≤ 2147483647) (hp : sep.size ≤ 2147483647) (h : index s.data.toList sep.data.toList = k) (hk : k + sep.size ≤ s.size) :
    Calls Try.prog 12 #[.string s, .string sep] w fun e w' => e = .returned (.bool true) ∧ Below w.heap.size w w' := by
  have H := Lib.hid h
  clear h
  go_enter Try.func12, Try.ntmps12
  go_wp2_with fail
  refine (SeFirst s sep _ (by omega) (by omega)).mono ?_
  rintro e w1 ⟨rfl, rfl⟩
  rw [H.out]
  go_wp2_with fail
  refine wp_region_inv (by kernel_rfl) (fun j => [isV (.string s), isV (.string sep), isV (PartsOf (s.extract 0 k) (s.extract (k + sep.size) s.size) true), isV (.string s), isV (.int .i64 (k : Nat)), isV (.string (s.extract 0 k)), isV (.string s), isV (.int .i64 (k : Nat)), isV (.string sep), isV (.int .i64 (sep.size : Nat)), isV (.int .i64 ((k + sep.size : Nat) : Int)), isV (.string (s.extract (k + sep.size) s.size)), isV (PartsOf (s.extract 0 k) (s.extract (k + sep.size) s.size) true), isV (.bool true), isV (.bool true)].getD j anyV) (by kernel_rfl) ?steps ?fin
  case steps =>
    refine ⟨?_, ?_, ?_, ?_, ?_, ?_, ?_, ?_, ?_, ?_, ?_, ?_, ?_, ?_, ?_, trivial⟩
    · intro A W hbl hsz hbase hdep
      have E : A.tmps.getD 0 undef = .string s := hbase 0 (by kernel_rfl)
      exact od_move (wanted_none rfl _) rfl E
    · intro A W hbl hsz hbase hdep
      have E : A.tmps.getD 1 undef = .string sep := hbase 1 (by kernel_rfl)
      exact od_move (wanted_none rfl _) rfl E
    · intro A W hbl hsz hbase hdep
      have E0 : A.tmps.getD 29 undef = .string s := hdep 0 29 (by kernel_rfl) (by kernel_rfl)
      have E1 : A.tmps.getD 30 undef = .string sep := hdep 1 30 (by kernel_rfl) (by kernel_rfl)
      refine od_call hbl (wanted_none rfl _) rfl (enters_of Try.func38 (by kernel_rfl) rfl) ?_
      show Calls Try.prog 38 #[A.tmps.getD 29 undef, A.tmps.getD 30 undef] W _
      rw [E0, E1]
      exact (StrCut_yes s sep k W (by omega) H.out hk).mono (fun e w' ⟨he, hb⟩ => ⟨_, he, rfl, hb⟩)
    · intro A W hbl hsz hbase hdep
      have E : A.tmps.getD 0 undef = .string s := hbase 0 (by kernel_rfl)
      exact od_move (wanted_none rfl _) rfl E
    · intro A W hbl hsz hbase hdep
      have E : A.tmps.getD 5 undef = .int .i64 (k : Nat) := hbase 5 (by kernel_rfl)
      exact od_move (wanted_none rfl _) rfl E
    · intro A W hbl hsz hbase hdep
      have E0 : A.tmps.getD 32 undef = .string s := hdep 3 32 (by kernel_rfl) (by kernel_rfl)
      have E2 : A.tmps.getD 33 undef = .int .i64 (k : Nat) := hdep 4 33 (by kernel_rfl) (by kernel_rfl)
      exact od_slice_to (by omega) (wanted_none rfl _) rfl E0 E2
    · intro A W hbl hsz hbase hdep
      have E : A.tmps.getD 0 undef = .string s := hbase 0 (by kernel_rfl)
      exact od_move (wanted_none rfl _) rfl E
    · intro A W hbl hsz hbase hdep
      have E : A.tmps.getD 5 undef = .int .i64 (k : Nat) := hbase 5 (by kernel_rfl)
      exact od_move (wanted_none rfl _) rfl E
    · intro A W hbl hsz hbase hdep
      have E : A.tmps.getD 1 undef = .string sep := hbase 1 (by kernel_rfl)
      exact od_move (wanted_none rfl _) rfl E
    · intro A W hbl hsz hbase hdep
      have E0 : A.tmps.getD 37 undef = .string sep := hdep 8 37 (by kernel_rfl) (by kernel_rfl)
      exact od_len (wanted_none rfl _) rfl rfl E0
    · intro A W hbl hsz hbase hdep
      have E0 : A.tmps.getD 36 undef = .int .i64 (k : Nat) := hdep 7 36 (by kernel_rfl) (by kernel_rfl)
      have E1 : A.tmps.getD 38 undef = .int .i64 (sep.size : Nat) := hdep 9 38 (by kernel_rfl) (by kernel_rfl)
      exact od_add (by omega) (wanted_none rfl _) rfl E0 E1
    · intro A W hbl hsz hbase hdep
      have E0 : A.tmps.getD 35 undef = .string s := hdep 6 35 (by kernel_rfl) (by kernel_rfl)
      have E1 : A.tmps.getD 39 undef = .int .i64 ((k + sep.size : Nat) : Int) := hdep 10 39 (by kernel_rfl) (by kernel_rfl)
      exact od_slice_from (by omega) (wanted_none rfl _) rfl E0 E1
    · intro A W hbl hsz hbase hdep
      have E0 : A.tmps.getD 34 undef = .string (s.extract 0 k) := hdep 5 34 (by kernel_rfl) (by kernel_rfl)
      have E1 : A.tmps.getD 40 undef = .string (s.extract (k + sep.size) s.size) := hdep 11 40 (by kernel_rfl) (by kernel_rfl)
      refine od_same (wanted_none rfl _) (v := PartsOf (s.extract 0 k) (s.extract (k + sep.size) s.size) true) ?_ rfl
      unfold execOp; simp only [Act.eval, E0, E1, List.map_toArray, List.map_cons, List.map_nil]; go_simp; rfl
    · intro A W hbl hsz hbase hdep
      have E0 : A.tmps.getD 31 undef = PartsOf (s.extract 0 k) (s.extract (k + sep.size) s.size) true := hdep 2 31 (by kernel_rfl) (by kernel_rfl)
      have E1 : A.tmps.getD 41 undef = PartsOf (s.extract 0 k) (s.extract (k + sep.size) s.size) true := hdep 12 41 (by kernel_rfl) (by kernel_rfl)
      refine od_same (wanted_none rfl _) (v := .bool true) ?_ rfl
      unfold PartsOf at E0 E1
      unfold execOp; simp only [Act.eval, E0, E1]; go_simp
    · intro A W hbl hsz hbase hdep
      have E : A.tmps.getD 42 undef = .bool true := hdep 13 42 (by kernel_rfl) (by kernel_rfl)
      exact od_assign (wanted_none rfl _) rfl E
  case fin =>
    rintro ⟨T, d⟩ w' hbl hdef hsz hbase hall
    obtain rfl : d = [] := hdef
    have e4 : T.getD 4 undef = .bool true := hall 14 4 (by kernel_rfl)
    have HE := Lib.hid e4
    have HL := Lib.hid hbl
    clear hsz hbase hall e4 hbl
    go_wp2
    go_ret
    exact ⟨by rw [HE.out], HL.out⟩

theorem walk_FnStrCut (s sep : ByteArray) (w : World) (hs : s.size ≤ maxLen) (hp : sep.size ≤ maxLen) :
    Calls Try.prog 12 #[.string s, .string sep] w fun e w' => e = .returned (.bool true) ∧ Below w.heap.size w w' := by
  unfold maxLen at hs hp
  by_cases hbig : 2147483647 < s.size
  · go_enter Try.func12, Try.ntmps12
    go_wp2
    go_ret
    exact ⟨rfl, Below.refl _ _⟩
  · by_cases hbig2 : 2147483647 < sep.size
    · go_enter Try.func12, Try.ntmps12
      go_wp2
      go_ret
      exact ⟨rfl, Below.refl _ _⟩
    · rcases index_cases s sep with ⟨h, _⟩ | ⟨k, h, hk, _⟩
      · exact cut_no s sep w (by omega) (by omega) h
      · exact cut_yes s sep k w (by omega) (by omega) h hk
end Go.Proofs.Ytggjdibahpnclaa

/- The walk of FnBytSpace: the region, where the text is valid (mkBytSpace.py). UNDER WAY. -/
import Derived.Test.YtpaieadnicmplaaDoorInvB
import Derived.Test.YtpaieadnicmplaaDoorValX
import Derived.Test.YtpaieadnicmplaaDoorSpcB
import Derived.Test.YtpaieadnicmplaaDoorSeTrB
set_option linter.unusedVariables false
namespace Go.Proofs.YtpaieadnicmplaaDoor
open Go.RowKit Go.Lib

theorem ab_fieldsB : (Lib.goFieldsP isSpaceR ⟨#[97, 32, 98]⟩).length = 2 := by rw [goFields_count]; decide +kernel
theorem od_lenS {ops : Array Oper} {Q : Exit → Act → World → Prop} {o : Oper} {a : Act} {w w0 : World} {x : Operand} {xs : List ByteArray} {n : Nat} (hn : xs.length = n) (hw : Region.wanted o (yielded ops a.tmps) = true) (hop : o.op = .call { callee := .builtin .len, args := #[x], argTypes := #[28] }) (hx : StrsAt w (a.eval x) xs) : OpDone Tryd.prog ops Q (isV (.int .i64 n)) w0 a w o := by
  obtain ⟨A, c, e, _⟩ := hx
  rw [hn] at e
  refine od_same hw (v := .int .i64 n) ?_ rfl
  unfold execOp; rw [hop]
  cases x <;> simp [Act.eval] at e ⊢ <;> (try simp [e]) <;> go_simp

set_option maxHeartbeats 4000000 in
set_option maxRecDepth 100000 in
theorem walk_FnBytSpace_valid (s : ByteArray) (w : World) (hs' : s.size < 2147483648) (hv : valS s = true) (hSp : Spaces w) (hT : Tabs w) :
    Calls Tryd.prog 5 #[.string s] w fun e w' => e = .returned (.bool true) ∧ Below w.heap.size w w' := by
  have HV := Lib.hid hv
  have HSp := Lib.hid hSp
  have HT := Lib.hid hT
  have zs : s.size < 4294967281 := by omega
  have hls : (goTrimLeft s).size < 2147483648 := by
    have : (goTrimLeft s).size ≤ s.size := by
      unfold goTrimLeft
      split
      · exact Nat.zero_le _
      · rw [ByteArray.size_extract]; omega
    omega
  clear hv hSp hT
  go_enter Tryd.func5, Tryd.ntmps5
  go_wp2_with fail
  refine wp_region_inv (by kernel_rfl) (fun j => [isV (.string s), isV (.bool true), isV (.bool false), isV (.bool false), isV (.string s), isB w.heap.size s, isTx (trB s), isV (.string (trB s)), isV (.string s), isV (.string spc), isV (.string (goTrimLeft s)), isV (.string spc), isV (.string (trB s)), isV (.bool true), isV (.bool true), isV (.string s), isB w.heap.size s, isSs (Lib.goFieldsP isSpaceR s), isV (.string s), isSs (Lib.goFieldsP isSpaceR s), isV (.bool true), isV (.bool true), isV (.bool true), isB w.heap.size ⟨#[97, 32, 98]⟩, isB w.heap.size ⟨#[97, 32, 98]⟩, isSs (Lib.goFieldsP isSpaceR ⟨#[97, 32, 98]⟩), isV (.int .i64 2), isV (.bool true), isV (.bool true), isV (.bool true), isV (.bool true)].getD j anyV) (by kernel_rfl) ?steps ?fin
  case steps =>
    refine ⟨?_, ?_, ?_, ?_, ?_, ?_, ?_, ?_, ?_, ?_, ?_, ?_, ?_, ?_, ?_, ?_, ?_, ?_, ?_, ?_, ?_, ?_, ?_, ?_, ?_, ?_, ?_, ?_, ?_, ?_, ?_, trivial⟩
    · intro A W hbl hsz hbase hdep
      have E : A.tmps.getD 0 undef = .string s := hbase 0 (by kernel_rfl)
      exact od_move (wanted_none rfl _) rfl E
    · intro A W hbl hsz hbase hdep
      have E0 : A.tmps.getD 6 undef = .string s := hdep 0 6 (by kernel_rfl) (by kernel_rfl)
      refine od_call hbl (wanted_none rfl _) rfl (enters_of Tryd.func14 (by kernel_rfl) rfl) ?_
      show Calls Tryd.prog 14 #[A.tmps.getD 6 undef] W _
      rw [E0]
      exact (SeValidX s W zs).mono (fun e w' ⟨he, hb⟩ => ⟨_, he, by rw [HV.out]; rfl, hb⟩)
    · intro A W hbl hsz hbase hdep
      have E : A.tmps.getD 7 undef = .bool true := hdep 1 7 (by kernel_rfl) (by kernel_rfl)
      exact od_not (b := true) (wanted_none rfl _) rfl E
    · intro A W hbl hsz hbase hdep
      have E : A.tmps.getD 8 undef = .bool false := hdep 2 8 (by kernel_rfl) (by kernel_rfl)
      exact od_move (wanted_none rfl _) rfl E
    · intro A W hbl hsz hbase hdep
      have E : A.tmps.getD 0 undef = .string s := hbase 0 (by kernel_rfl)
      exact od_move (wanted_some (g := 3) (s := 9) rfl (by kernel_rfl) _ (Nat.lt_of_lt_of_eq (by decide : 9 < 36) hsz.symm) (hdep 3 9 (by kernel_rfl) (by kernel_rfl))) rfl E
    · intro A W hbl hsz hbase hdep
      have E : A.tmps.getD 10 undef = .string s := hdep 4 10 (by kernel_rfl) (by kernel_rfl)
      exact od_sb hbl (wanted_some (g := 3) (s := 9) rfl (by kernel_rfl) _ (Nat.lt_of_lt_of_eq (by decide : 9 < 36) hsz.symm) (hdep 3 9 (by kernel_rfl) (by kernel_rfl))) rfl E
    · intro A W hbl hsz hbase hdep
      have F0 : HB w.heap.size s (A.tmps.getD 11 undef) W := hdep 5 11 (by kernel_rfl) (by kernel_rfl)
      obtain ⟨g0, c0, E0, L0, N0, G0, Y0, S0⟩ := F0
      refine od_call hbl (wanted_some (g := 3) (s := 9) rfl (by kernel_rfl) _ (Nat.lt_of_lt_of_eq (by decide : 9 < 36) hsz.symm) (hdep 3 9 (by kernel_rfl) (by kernel_rfl))) rfl (enters_of Tryd.func15 (by kernel_rfl) rfl) ?_
      show Calls Tryd.prog 15 #[A.tmps.getD 11 undef] W _
      rw [E0]
      exact (bytTrimSpace s g0 c0 W Y0 hs' (HSp.out.below hbl) (HT.out.below hbl)).mono (fun e w' ⟨v, he, hb, hv⟩ => ⟨v, he, hv, hb⟩)
    · intro A W hbl hsz hbase hdep
      have E : TxV (trB s) (A.tmps.getD 12 undef) W := hdep 6 12 (by kernel_rfl) (by kernel_rfl)
      exact od_tx (wanted_some (g := 3) (s := 9) rfl (by kernel_rfl) _ (Nat.lt_of_lt_of_eq (by decide : 9 < 36) hsz.symm) (hdep 3 9 (by kernel_rfl) (by kernel_rfl))) rfl E
    · intro A W hbl hsz hbase hdep
      have E : A.tmps.getD 0 undef = .string s := hbase 0 (by kernel_rfl)
      exact od_move (wanted_some (g := 3) (s := 9) rfl (by kernel_rfl) _ (Nat.lt_of_lt_of_eq (by decide : 9 < 36) hsz.symm) (hdep 3 9 (by kernel_rfl) (by kernel_rfl))) rfl E
    · intro A W hbl hsz hbase hdep
      refine od_call hbl (wanted_some (g := 3) (s := 9) rfl (by kernel_rfl) _ (Nat.lt_of_lt_of_eq (by decide : 9 < 36) hsz.symm) (hdep 3 9 (by kernel_rfl) (by kernel_rfl))) rfl (enters_of Tryd.func18 (by kernel_rfl) rfl) ?_
      show Calls Tryd.prog 18 #[] W _
      exact (SeSpaces W).mono (fun e w' ⟨he, hb⟩ => ⟨_, he, rfl, by subst hb; exact Below.refl _ _⟩)
    · intro A W hbl hsz hbase hdep
      have E0 : A.tmps.getD 14 undef = .string s := hdep 8 14 (by kernel_rfl) (by kernel_rfl)
      have E1 : A.tmps.getD 15 undef = .string spc := hdep 9 15 (by kernel_rfl) (by kernel_rfl)
      refine od_call hbl (wanted_some (g := 3) (s := 9) rfl (by kernel_rfl) _ (Nat.lt_of_lt_of_eq (by decide : 9 < 36) hsz.symm) (hdep 3 9 (by kernel_rfl) (by kernel_rfl))) rfl (enters_of Tryd.func17 (by kernel_rfl) rfl) ?_
      show Calls Tryd.prog 17 #[A.tmps.getD 14 undef, A.tmps.getD 15 undef] W _
      rw [E0, E1]
      exact (SeTrimLeft s W hs').mono (fun e w' ⟨he, hb⟩ => ⟨_, he, rfl, hb⟩)
    · intro A W hbl hsz hbase hdep
      refine od_call hbl (wanted_some (g := 3) (s := 9) rfl (by kernel_rfl) _ (Nat.lt_of_lt_of_eq (by decide : 9 < 36) hsz.symm) (hdep 3 9 (by kernel_rfl) (by kernel_rfl))) rfl (enters_of Tryd.func18 (by kernel_rfl) rfl) ?_
      show Calls Tryd.prog 18 #[] W _
      exact (SeSpaces W).mono (fun e w' ⟨he, hb⟩ => ⟨_, he, rfl, by subst hb; exact Below.refl _ _⟩)
    · intro A W hbl hsz hbase hdep
      have E0 : A.tmps.getD 16 undef = .string (goTrimLeft s) := hdep 10 16 (by kernel_rfl) (by kernel_rfl)
      have E1 : A.tmps.getD 17 undef = .string spc := hdep 11 17 (by kernel_rfl) (by kernel_rfl)
      refine od_call hbl (wanted_some (g := 3) (s := 9) rfl (by kernel_rfl) _ (Nat.lt_of_lt_of_eq (by decide : 9 < 36) hsz.symm) (hdep 3 9 (by kernel_rfl) (by kernel_rfl))) rfl (enters_of Tryd.func16 (by kernel_rfl) rfl) ?_
      show Calls Tryd.prog 16 #[A.tmps.getD 16 undef, A.tmps.getD 17 undef] W _
      rw [E0, E1]
      exact (SeTrimRight (goTrimLeft s) W hls).mono (fun e w' ⟨he, hb⟩ => ⟨_, he, congrArg Value.string (trim_eq s), hb⟩)
    · intro A W hbl hsz hbase hdep
      have E0 : A.tmps.getD 13 undef = .string (trB s) := hdep 7 13 (by kernel_rfl) (by kernel_rfl)
      have E1 : A.tmps.getD 18 undef = .string (trB s) := hdep 12 18 (by kernel_rfl) (by kernel_rfl)
      exact od_eql_str (wanted_some (g := 3) (s := 9) rfl (by kernel_rfl) _ (Nat.lt_of_lt_of_eq (by decide : 9 < 36) hsz.symm) (hdep 3 9 (by kernel_rfl) (by kernel_rfl))) rfl E0 E1
    · intro A W hbl hsz hbase hdep
      have E : A.tmps.getD 19 undef = .bool true := hdep 13 19 (by kernel_rfl) (by kernel_rfl)
      exact od_move (wanted_some (g := 3) (s := 9) rfl (by kernel_rfl) _ (Nat.lt_of_lt_of_eq (by decide : 9 < 36) hsz.symm) (hdep 3 9 (by kernel_rfl) (by kernel_rfl))) rfl E
    · intro A W hbl hsz hbase hdep
      have E : A.tmps.getD 0 undef = .string s := hbase 0 (by kernel_rfl)
      exact od_move (wanted_some (g := 14) (s := 20) rfl (by kernel_rfl) _ (Nat.lt_of_lt_of_eq (by decide : 20 < 36) hsz.symm) (hdep 14 20 (by kernel_rfl) (by kernel_rfl))) rfl E
    · intro A W hbl hsz hbase hdep
      have E : A.tmps.getD 21 undef = .string s := hdep 15 21 (by kernel_rfl) (by kernel_rfl)
      exact od_sb hbl (wanted_some (g := 14) (s := 20) rfl (by kernel_rfl) _ (Nat.lt_of_lt_of_eq (by decide : 20 < 36) hsz.symm) (hdep 14 20 (by kernel_rfl) (by kernel_rfl))) rfl E
    · intro A W hbl hsz hbase hdep
      have F0 : HB w.heap.size s (A.tmps.getD 22 undef) W := hdep 16 22 (by kernel_rfl) (by kernel_rfl)
      obtain ⟨g0, c0, E0, L0, N0, G0, Y0, S0⟩ := F0
      refine od_call hbl (wanted_some (g := 14) (s := 20) rfl (by kernel_rfl) _ (Nat.lt_of_lt_of_eq (by decide : 20 < 36) hsz.symm) (hdep 14 20 (by kernel_rfl) (by kernel_rfl))) rfl (enters_of Tryd.func19 (by kernel_rfl) rfl) ?_
      show Calls Tryd.prog 19 #[A.tmps.getD 22 undef] W _
      rw [E0]
      exact (bytFields s g0 c0 W Y0 hs' (HSp.out.below hbl) (HT.out.below hbl)).mono (fun e w' ⟨v, he, hv, hb⟩ => ⟨v, he, hv, hb⟩)
    · intro A W hbl hsz hbase hdep
      have E : A.tmps.getD 0 undef = .string s := hbase 0 (by kernel_rfl)
      exact od_move (wanted_some (g := 14) (s := 20) rfl (by kernel_rfl) _ (Nat.lt_of_lt_of_eq (by decide : 20 < 36) hsz.symm) (hdep 14 20 (by kernel_rfl) (by kernel_rfl))) rfl E
    · intro A W hbl hsz hbase hdep
      have E0 : A.tmps.getD 24 undef = .string s := hdep 18 24 (by kernel_rfl) (by kernel_rfl)
      refine od_call hbl (wanted_some (g := 14) (s := 20) rfl (by kernel_rfl) _ (Nat.lt_of_lt_of_eq (by decide : 20 < 36) hsz.symm) (hdep 14 20 (by kernel_rfl) (by kernel_rfl))) rfl (enters_of Tryd.func20 (by kernel_rfl) rfl) ?_
      show Calls Tryd.prog 20 #[A.tmps.getD 24 undef] W _
      rw [E0]
      exact (SeFields s W hs').mono (fun e w' ⟨v, he, hv, hb⟩ => ⟨v, he, hv, hb⟩)
    · intro A W hbl hsz hbase hdep
      have E0 : StrsAt W (A.tmps.getD 23 undef) (Lib.goFieldsP isSpaceR s) := hdep 17 23 (by kernel_rfl) (by kernel_rfl)
      have E1 : StrsAt W (A.tmps.getD 25 undef) (Lib.goFieldsP isSpaceR s) := hdep 19 25 (by kernel_rfl) (by kernel_rfl)
      refine od_call hbl (wanted_some (g := 14) (s := 20) rfl (by kernel_rfl) _ (Nat.lt_of_lt_of_eq (by decide : 20 < 36) hsz.symm) (hdep 14 20 (by kernel_rfl) (by kernel_rfl))) rfl (enters_of Tryd.func10 (by kernel_rfl) rfl) ?_
      show Calls Tryd.prog 10 #[A.tmps.getD 23 undef, A.tmps.getD 25 undef] W _
      exact (SeSame _ _ _ W E0 E1 (by have := goF_len s; omega)).mono (fun e w' ⟨he, hb⟩ => ⟨_, he, rfl, by subst hb; exact Below.refl _ _⟩)
    · intro A W hbl hsz hbase hdep
      have C : A.tmps.getD 20 undef = .bool true := hdep 14 20 (by kernel_rfl) (by kernel_rfl)
      have E : A.tmps.getD 26 undef = .bool true := hdep 20 26 (by kernel_rfl) (by kernel_rfl)
      exact od_pick (wanted_some (g := 3) (s := 9) rfl (by kernel_rfl) _ (Nat.lt_of_lt_of_eq (by decide : 9 < 36) hsz.symm) (hdep 3 9 (by kernel_rfl) (by kernel_rfl))) rfl C E
    · intro A W hbl hsz hbase hdep
      have E : A.tmps.getD 27 undef = .bool true := hdep 21 27 (by kernel_rfl) (by kernel_rfl)
      exact od_move (wanted_some (g := 3) (s := 9) rfl (by kernel_rfl) _ (Nat.lt_of_lt_of_eq (by decide : 9 < 36) hsz.symm) (hdep 3 9 (by kernel_rfl) (by kernel_rfl))) rfl E
    · intro A W hbl hsz hbase hdep
      refine od_run (wanted_some (g := 22) (s := 28) rfl (by kernel_rfl) _ (Nat.lt_of_lt_of_eq (by decide : 28 < 36) hsz.symm) (hdep 22 28 (by kernel_rfl) (by kernel_rfl))) (v := .slice (some ⟨W.heap.size, 0, none⟩) 3 3) (w' := W.alloc (.cells #[.int .u8 97, .int .u8 32, .int .u8 98] 5)) ?_ (hb_new (s := ⟨#[97, 32, 98]⟩) hbl rfl 3 rfl) (below_w0 hbl ((Below.refl _ _).alloc (Nat.le_refl _) _))
      unfold execOp; simp; go_simp
    · intro A W hbl hsz hbase hdep
      have E : HB w.heap.size ⟨#[97, 32, 98]⟩ (A.tmps.getD 29 undef) W := hdep 23 29 (by kernel_rfl) (by kernel_rfl)
      exact od_bb (wanted_some (g := 22) (s := 28) rfl (by kernel_rfl) _ (Nat.lt_of_lt_of_eq (by decide : 28 < 36) hsz.symm) (hdep 22 28 (by kernel_rfl) (by kernel_rfl))) rfl E
    · intro A W hbl hsz hbase hdep
      have F0 : HB w.heap.size ⟨#[97, 32, 98]⟩ (A.tmps.getD 30 undef) W := hdep 24 30 (by kernel_rfl) (by kernel_rfl)
      obtain ⟨g0, c0, E0, L0, N0, G0, Y0, S0⟩ := F0
      refine od_call hbl (wanted_some (g := 22) (s := 28) rfl (by kernel_rfl) _ (Nat.lt_of_lt_of_eq (by decide : 28 < 36) hsz.symm) (hdep 22 28 (by kernel_rfl) (by kernel_rfl))) rfl (enters_of Tryd.func19 (by kernel_rfl) rfl) ?_
      show Calls Tryd.prog 19 #[A.tmps.getD 30 undef] W _
      rw [E0]
      exact (bytFields ⟨#[97, 32, 98]⟩ g0 c0 W Y0 (by decide) (HSp.out.below hbl) (HT.out.below hbl)).mono (fun e w' ⟨v, he, hv, hb⟩ => ⟨v, he, hv, hb⟩)
    · intro A W hbl hsz hbase hdep
      have E : StrsAt W (A.tmps.getD 31 undef) (Lib.goFieldsP isSpaceR ⟨#[97, 32, 98]⟩) := hdep 25 31 (by kernel_rfl) (by kernel_rfl)
      exact od_lenS ab_fieldsB (wanted_some (g := 22) (s := 28) rfl (by kernel_rfl) _ (Nat.lt_of_lt_of_eq (by decide : 28 < 36) hsz.symm) (hdep 22 28 (by kernel_rfl) (by kernel_rfl))) rfl E
    · intro A W hbl hsz hbase hdep
      have E0 : A.tmps.getD 32 undef = .int .i64 2 := hdep 26 32 (by kernel_rfl) (by kernel_rfl)
      exact od_eql_int Tryd.underlying3 (wanted_some (g := 22) (s := 28) rfl (by kernel_rfl) _ (Nat.lt_of_lt_of_eq (by decide : 28 < 36) hsz.symm) (hdep 22 28 (by kernel_rfl) (by kernel_rfl))) rfl E0 rfl
    · intro A W hbl hsz hbase hdep
      have C : A.tmps.getD 28 undef = .bool true := hdep 22 28 (by kernel_rfl) (by kernel_rfl)
      have E : A.tmps.getD 33 undef = .bool true := hdep 27 33 (by kernel_rfl) (by kernel_rfl)
      exact od_pick (wanted_some (g := 3) (s := 9) rfl (by kernel_rfl) _ (Nat.lt_of_lt_of_eq (by decide : 9 < 36) hsz.symm) (hdep 3 9 (by kernel_rfl) (by kernel_rfl))) rfl C E
    · intro A W hbl hsz hbase hdep
      have C : A.tmps.getD 9 undef = .bool false := hdep 3 9 (by kernel_rfl) (by kernel_rfl)
      have E : A.tmps.getD 34 undef = .bool true := hdep 28 34 (by kernel_rfl) (by kernel_rfl)
      exact od_pick_else (wanted_none rfl _) rfl C E
    · intro A W hbl hsz hbase hdep
      have E : A.tmps.getD 35 undef = .bool true := hdep 29 35 (by kernel_rfl) (by kernel_rfl)
      exact od_assign (wanted_none rfl _) rfl E
  case fin =>
    rintro ⟨T, d⟩ w' hbl hdef hsz hbase hall
    obtain rfl : d = [] := hdef
    have e4 : T.getD 2 undef = .bool true := hall 30 2 (by kernel_rfl)
    have HE := Lib.hid e4
    have HL := Lib.hid hbl
    clear hsz hbase hall e4 hbl
    go_wp2
    go_ret
    exact ⟨by rw [HE.out], HL.out⟩
end Go.Proofs.YtpaieadnicmplaaDoor

/- The walk of FnBytSpace (mkBytSpI.py). -/
import Derived.Test.YtpaieadnicmplaaDoorWBytSpV
import Derived.Test.YtpaieadnicmplaaDoorInv2
set_option linter.unusedVariables false
namespace Go.Proofs.YtpaieadnicmplaaDoor
open Go.RowKit Go.Lib

set_option maxHeartbeats 4000000 in
set_option maxRecDepth 100000 in
theorem walk_FnBytSpace (s : ByteArray) (w : World) (_hs : s.size ≤ maxLen) (hSp : Spaces w) (hT : Tabs w) :
    Calls Tryd.prog 5 #[.string s] w fun e w' => e = .returned (.bool true) ∧ Below w.heap.size w w' := by
  by_cases hbig : 2147483647 < s.size
  · clear hSp hT
    go_enter Tryd.func5, Tryd.ntmps5
    go_wp2
    go_ret
    exact ⟨rfl, Below.refl _ _⟩
  · cases hv : valS s with
    | true => exact walk_FnBytSpace_valid s w (by omega) hv hSp hT
    | false =>
      have HV := Lib.hid hv
      have zs : s.size < 4294967281 := by omega
      clear hSp hT hv
      go_enter Tryd.func5, Tryd.ntmps5
      go_wp2_with fail
      refine wp_region_inv2 (by kernel_rfl) (fun j => [isV (.string s), isV (.bool false), isV (.bool true), isV (.bool true), isV undef, isV undef, isV undef, isV undef, isV undef, isV undef, isV undef, isV undef, isV undef, isV undef, isV undef, isV undef, isV undef, isV undef, isV undef, isV undef, isV undef, isV undef, isV undef, isV undef, isV undef, isV undef, isV undef, isV undef, isV undef, isV (.bool true), isV (.bool true)].getD j anyV) (by kernel_rfl) ?steps ?fin
      case steps =>
        refine ⟨?_, ?_, ?_, ?_, ?_, ?_, ?_, ?_, ?_, ?_, ?_, ?_, ?_, ?_, ?_, ?_, ?_, ?_, ?_, ?_, ?_, ?_, ?_, ?_, ?_, ?_, ?_, ?_, ?_, ?_, ?_, trivial⟩
        · intro A W hbl hsz hbase hdep
          have E : A.tmps.getD 0 undef = .string s := hbase 0 (by kernel_rfl)
          exact .inl (od_move (wanted_none rfl _) rfl E)
        · intro A W hbl hsz hbase hdep
          have E0 : A.tmps.getD 6 undef = .string s := hdep 0 6 (by kernel_rfl) (by kernel_rfl)
          refine .inl (od_call hbl (wanted_none rfl _) rfl (enters_of Tryd.func14 (by kernel_rfl) rfl) ?_)
          show Calls Tryd.prog 14 #[A.tmps.getD 6 undef] W _
          rw [E0]
          exact (SeValidX s W zs).mono (fun e w' ⟨he, hb⟩ => ⟨_, he, by rw [HV.out]; rfl, hb⟩)
        · intro A W hbl hsz hbase hdep
          have E : A.tmps.getD 7 undef = .bool false := hdep 1 7 (by kernel_rfl) (by kernel_rfl)
          exact .inl (od_not (b := false) (wanted_none rfl _) rfl E)
        · intro A W hbl hsz hbase hdep
          have E : A.tmps.getD 8 undef = .bool true := hdep 2 8 (by kernel_rfl) (by kernel_rfl)
          exact .inl (od_move (wanted_none rfl _) rfl E)
        · intro A W hbl hsz hbase hdep
          have E : A.tmps.getD 9 undef = .bool true := hdep 3 9 (by kernel_rfl) (by kernel_rfl)
          exact .inr ⟨unwanted_some (g := 3) (b := false) (s := 9) rfl (by kernel_rfl) _ (Nat.lt_of_lt_of_eq (by decide : 9 < 36) hsz.symm) E (by intro h; cases h), rfl⟩
        · intro A W hbl hsz hbase hdep
          have E : A.tmps.getD 9 undef = .bool true := hdep 3 9 (by kernel_rfl) (by kernel_rfl)
          exact .inr ⟨unwanted_some (g := 3) (b := false) (s := 9) rfl (by kernel_rfl) _ (Nat.lt_of_lt_of_eq (by decide : 9 < 36) hsz.symm) E (by intro h; cases h), rfl⟩
        · intro A W hbl hsz hbase hdep
          have E : A.tmps.getD 9 undef = .bool true := hdep 3 9 (by kernel_rfl) (by kernel_rfl)
          exact .inr ⟨unwanted_some (g := 3) (b := false) (s := 9) rfl (by kernel_rfl) _ (Nat.lt_of_lt_of_eq (by decide : 9 < 36) hsz.symm) E (by intro h; cases h), rfl⟩
        · intro A W hbl hsz hbase hdep
          have E : A.tmps.getD 9 undef = .bool true := hdep 3 9 (by kernel_rfl) (by kernel_rfl)
          exact .inr ⟨unwanted_some (g := 3) (b := false) (s := 9) rfl (by kernel_rfl) _ (Nat.lt_of_lt_of_eq (by decide : 9 < 36) hsz.symm) E (by intro h; cases h), rfl⟩
        · intro A W hbl hsz hbase hdep
          have E : A.tmps.getD 9 undef = .bool true := hdep 3 9 (by kernel_rfl) (by kernel_rfl)
          exact .inr ⟨unwanted_some (g := 3) (b := false) (s := 9) rfl (by kernel_rfl) _ (Nat.lt_of_lt_of_eq (by decide : 9 < 36) hsz.symm) E (by intro h; cases h), rfl⟩
        · intro A W hbl hsz hbase hdep
          have E : A.tmps.getD 9 undef = .bool true := hdep 3 9 (by kernel_rfl) (by kernel_rfl)
          exact .inr ⟨unwanted_some (g := 3) (b := false) (s := 9) rfl (by kernel_rfl) _ (Nat.lt_of_lt_of_eq (by decide : 9 < 36) hsz.symm) E (by intro h; cases h), rfl⟩
        · intro A W hbl hsz hbase hdep
          have E : A.tmps.getD 9 undef = .bool true := hdep 3 9 (by kernel_rfl) (by kernel_rfl)
          exact .inr ⟨unwanted_some (g := 3) (b := false) (s := 9) rfl (by kernel_rfl) _ (Nat.lt_of_lt_of_eq (by decide : 9 < 36) hsz.symm) E (by intro h; cases h), rfl⟩
        · intro A W hbl hsz hbase hdep
          have E : A.tmps.getD 9 undef = .bool true := hdep 3 9 (by kernel_rfl) (by kernel_rfl)
          exact .inr ⟨unwanted_some (g := 3) (b := false) (s := 9) rfl (by kernel_rfl) _ (Nat.lt_of_lt_of_eq (by decide : 9 < 36) hsz.symm) E (by intro h; cases h), rfl⟩
        · intro A W hbl hsz hbase hdep
          have E : A.tmps.getD 9 undef = .bool true := hdep 3 9 (by kernel_rfl) (by kernel_rfl)
          exact .inr ⟨unwanted_some (g := 3) (b := false) (s := 9) rfl (by kernel_rfl) _ (Nat.lt_of_lt_of_eq (by decide : 9 < 36) hsz.symm) E (by intro h; cases h), rfl⟩
        · intro A W hbl hsz hbase hdep
          have E : A.tmps.getD 9 undef = .bool true := hdep 3 9 (by kernel_rfl) (by kernel_rfl)
          exact .inr ⟨unwanted_some (g := 3) (b := false) (s := 9) rfl (by kernel_rfl) _ (Nat.lt_of_lt_of_eq (by decide : 9 < 36) hsz.symm) E (by intro h; cases h), rfl⟩
        · intro A W hbl hsz hbase hdep
          have E : A.tmps.getD 9 undef = .bool true := hdep 3 9 (by kernel_rfl) (by kernel_rfl)
          exact .inr ⟨unwanted_some (g := 3) (b := false) (s := 9) rfl (by kernel_rfl) _ (Nat.lt_of_lt_of_eq (by decide : 9 < 36) hsz.symm) E (by intro h; cases h), rfl⟩
        · intro A W hbl hsz hbase hdep
          have E : A.tmps.getD 20 undef = undef := hdep 14 20 (by kernel_rfl) (by kernel_rfl)
          exact .inr ⟨unwanted_some (g := 14) (b := true) (s := 20) rfl (by kernel_rfl) _ (Nat.lt_of_lt_of_eq (by decide : 20 < 36) hsz.symm) E (by intro h; cases h), rfl⟩
        · intro A W hbl hsz hbase hdep
          have E : A.tmps.getD 20 undef = undef := hdep 14 20 (by kernel_rfl) (by kernel_rfl)
          exact .inr ⟨unwanted_some (g := 14) (b := true) (s := 20) rfl (by kernel_rfl) _ (Nat.lt_of_lt_of_eq (by decide : 20 < 36) hsz.symm) E (by intro h; cases h), rfl⟩
        · intro A W hbl hsz hbase hdep
          have E : A.tmps.getD 20 undef = undef := hdep 14 20 (by kernel_rfl) (by kernel_rfl)
          exact .inr ⟨unwanted_some (g := 14) (b := true) (s := 20) rfl (by kernel_rfl) _ (Nat.lt_of_lt_of_eq (by decide : 20 < 36) hsz.symm) E (by intro h; cases h), rfl⟩
        · intro A W hbl hsz hbase hdep
          have E : A.tmps.getD 20 undef = undef := hdep 14 20 (by kernel_rfl) (by kernel_rfl)
          exact .inr ⟨unwanted_some (g := 14) (b := true) (s := 20) rfl (by kernel_rfl) _ (Nat.lt_of_lt_of_eq (by decide : 20 < 36) hsz.symm) E (by intro h; cases h), rfl⟩
        · intro A W hbl hsz hbase hdep
          have E : A.tmps.getD 20 undef = undef := hdep 14 20 (by kernel_rfl) (by kernel_rfl)
          exact .inr ⟨unwanted_some (g := 14) (b := true) (s := 20) rfl (by kernel_rfl) _ (Nat.lt_of_lt_of_eq (by decide : 20 < 36) hsz.symm) E (by intro h; cases h), rfl⟩
        · intro A W hbl hsz hbase hdep
          have E : A.tmps.getD 20 undef = undef := hdep 14 20 (by kernel_rfl) (by kernel_rfl)
          exact .inr ⟨unwanted_some (g := 14) (b := true) (s := 20) rfl (by kernel_rfl) _ (Nat.lt_of_lt_of_eq (by decide : 20 < 36) hsz.symm) E (by intro h; cases h), rfl⟩
        · intro A W hbl hsz hbase hdep
          have E : A.tmps.getD 9 undef = .bool true := hdep 3 9 (by kernel_rfl) (by kernel_rfl)
          exact .inr ⟨unwanted_some (g := 3) (b := false) (s := 9) rfl (by kernel_rfl) _ (Nat.lt_of_lt_of_eq (by decide : 9 < 36) hsz.symm) E (by intro h; cases h), rfl⟩
        · intro A W hbl hsz hbase hdep
          have E : A.tmps.getD 9 undef = .bool true := hdep 3 9 (by kernel_rfl) (by kernel_rfl)
          exact .inr ⟨unwanted_some (g := 3) (b := false) (s := 9) rfl (by kernel_rfl) _ (Nat.lt_of_lt_of_eq (by decide : 9 < 36) hsz.symm) E (by intro h; cases h), rfl⟩
        · intro A W hbl hsz hbase hdep
          have E : A.tmps.getD 28 undef = undef := hdep 22 28 (by kernel_rfl) (by kernel_rfl)
          exact .inr ⟨unwanted_some (g := 22) (b := true) (s := 28) rfl (by kernel_rfl) _ (Nat.lt_of_lt_of_eq (by decide : 28 < 36) hsz.symm) E (by intro h; cases h), rfl⟩
        · intro A W hbl hsz hbase hdep
          have E : A.tmps.getD 28 undef = undef := hdep 22 28 (by kernel_rfl) (by kernel_rfl)
          exact .inr ⟨unwanted_some (g := 22) (b := true) (s := 28) rfl (by kernel_rfl) _ (Nat.lt_of_lt_of_eq (by decide : 28 < 36) hsz.symm) E (by intro h; cases h), rfl⟩
        · intro A W hbl hsz hbase hdep
          have E : A.tmps.getD 28 undef = undef := hdep 22 28 (by kernel_rfl) (by kernel_rfl)
          exact .inr ⟨unwanted_some (g := 22) (b := true) (s := 28) rfl (by kernel_rfl) _ (Nat.lt_of_lt_of_eq (by decide : 28 < 36) hsz.symm) E (by intro h; cases h), rfl⟩
        · intro A W hbl hsz hbase hdep
          have E : A.tmps.getD 28 undef = undef := hdep 22 28 (by kernel_rfl) (by kernel_rfl)
          exact .inr ⟨unwanted_some (g := 22) (b := true) (s := 28) rfl (by kernel_rfl) _ (Nat.lt_of_lt_of_eq (by decide : 28 < 36) hsz.symm) E (by intro h; cases h), rfl⟩
        · intro A W hbl hsz hbase hdep
          have E : A.tmps.getD 28 undef = undef := hdep 22 28 (by kernel_rfl) (by kernel_rfl)
          exact .inr ⟨unwanted_some (g := 22) (b := true) (s := 28) rfl (by kernel_rfl) _ (Nat.lt_of_lt_of_eq (by decide : 28 < 36) hsz.symm) E (by intro h; cases h), rfl⟩
        · intro A W hbl hsz hbase hdep
          have E : A.tmps.getD 9 undef = .bool true := hdep 3 9 (by kernel_rfl) (by kernel_rfl)
          exact .inr ⟨unwanted_some (g := 3) (b := false) (s := 9) rfl (by kernel_rfl) _ (Nat.lt_of_lt_of_eq (by decide : 9 < 36) hsz.symm) E (by intro h; cases h), rfl⟩
        · intro A W hbl hsz hbase hdep
          have C : A.tmps.getD 9 undef = .bool true := hdep 3 9 (by kernel_rfl) (by kernel_rfl)
          exact .inl (od_pick (wanted_none rfl _) rfl C rfl)
        · intro A W hbl hsz hbase hdep
          have E : A.tmps.getD 35 undef = .bool true := hdep 29 35 (by kernel_rfl) (by kernel_rfl)
          exact .inl (od_assign (wanted_none rfl _) rfl E)
      case fin =>
        rintro ⟨T, d⟩ w' hbl hdef hsz hbase hall
        obtain rfl : d = [] := hdef
        have e4 : T.getD 2 undef = .bool true := hall 30 2 (by kernel_rfl)
        have HE := Lib.hid e4
        have HL := Lib.hid hbl
        clear hsz hbase hall e4 hbl
        go_wp2
        go_ret
        exact ⟨by rw [HE.out], HL.out⟩
end Go.Proofs.YtpaieadnicmplaaDoor

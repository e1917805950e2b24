/- FnReplaceSplit: the walk (texts of bulk at most 1048576). -/
import Derived.Test.YtblaldahhhokmaaDoorWStrReplaceAll
import Derived.Test.YtblaldahhhokmaaDoorWSplitJoin
set_option linter.unusedVariables false
namespace Go.Proofs.YtblaldahhhokmaaDoor
open Go.RowKit Go.Lib

theorem repA_split (s old new : ByteArray) (h1 : 1 ≤ old.size) : repA s old new = ⟨(join ((allP s old 0 (-1)).map (·.data.toList)) new.data.toList).toArray⟩ := by
  refine b_eq ?_
  unfold repA
  rw [if_neg (by omega), replB_list, ← replaceAll_at s old new h1, replaceAll_pieces s old new h1]
theorem repA_room (s old new : ByteArray) (h1 : 1 ≤ old.size) (hk : s.size + old.size + new.size ≤ 1048576) : (join ((allP s old 0 (-1)).map (·.data.toList)) new.data.toList).length ≤ 140737488355328 := by
  rw [← replaceAll_pieces s old new h1, replaceAll_at s old new h1]
  have hl := brk_len s old h1 (s.size + 1) 0 (s.size + 1) (by omega)
  have h1 := replAt_len s new.data.toList old.size (brk s old 0 (s.size + 1)) 0
  rw [← Lib.size_eq] at h1
  have hm : (brk s old 0 (s.size + 1)).length * new.size ≤ 1048577 * 1048576 := mul_small (by omega) (by omega)
  have hm2 : ((brk s old 0 (s.size + 1)).length + 1) * s.size ≤ 1048578 * 1048576 := mul_small (by omega) (by omega)
  omega

set_option maxRecDepth 100000 in
set_option maxHeartbeats 2000000 in
theorem walk_FnReplaceSplit (s old new : ByteArray) (w : World) (_hs : s.size ≤ maxLen) (_ho : old.size ≤ maxLen) (_hn : new.size ≤ maxLen) (hT : Tabs w) (hk : s.size + old.size + new.size ≤ 1048576) :
    Calls Tryd.prog 13 #[.string s, .string old, .string new] w fun e w' => e = .returned (.bool true) ∧ Below w.heap.size w w' := by
  have HT := Lib.hid hT
  clear hT
  have hs' : s.size < 2147483648 := by omega
  have ho' : old.size < 2147483648 := by omega
  have hn' : new.size < 2147483648 := by omega
  by_cases h0 : old.size = 0
  · obtain rfl : old = ByteArray.empty := ByteArray.ext (Array.eq_empty_of_size_eq_zero h0)
    go_enter Tryd.func13, Tryd.ntmps13
    go_wp2
    go_ret
    exact ⟨rfl, Below.refl _ _⟩
  have hne := neS (c := old) (by omega)
  have hlen := allP_small s old 0 (-1) (by decide) hs'
  have HRS := Lib.hid (repA_split s old new (by omega))
  have HRR := Lib.hid (repA_room s old new (by omega) hk)
  go_enter Tryd.func13, Tryd.ntmps13
  go_wp2_with fail
  refine (StrReplaceAll s old new _ hk HT.out).mono ?_
  rintro e w0 ⟨rfl, hB0⟩
  have HB0 := Lib.hid hB0
  clear hB0
  go_wp2_with fail
  refine (StrSplit s old _ hs' (HT.out.below HB0.out)).mono ?_
  rintro e w1 ⟨v1, rfl, hA, hB1⟩
  have HB1 := bl3 HB0 hB1
  have HV := Lib.hid hA
  clear hB1 hA
  go_wp2_with fail
  refine (StrJoin (allP s old 0 (-1)) _ new _ HV.out (by omega) HRR.out).mono ?_
  rintro e w2 ⟨rfl, hB2⟩
  rw [← HRS.out]
  have HB2 := bl3 HB1 hB2
  clear hB2 HV HB1
  go_wp2_with fail
  refine (StrJoin [(⟨#[97]⟩ : ByteArray), ⟨#[98]⟩] _ ⟨#[44]⟩ _ (StrsAt.two w2 _ _ _) (by decide) (by rw [join_ab]; decide)).mono ?_
  rintro e w5 ⟨rfl, hB5⟩
  rw [join_ab]
  have HB5 := bl3 HB2 (((Below.refl _ w2).alloc (Nat.le_refl _) _).trans (hB5.mono (by simp)))
  clear hB5
  go_wp2_with fail
  go_ret
  exact ⟨rfl, HB5.out⟩
end Go.Proofs.YtblaldahhhokmaaDoor

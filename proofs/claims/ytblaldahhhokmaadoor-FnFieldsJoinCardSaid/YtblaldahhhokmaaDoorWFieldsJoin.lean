/- FnFieldsJoin: the walk. -/
import Derived.Test.YtblaldahhhokmaaDoorStrF
import Derived.Test.YtblaldahhhokmaaDoorStrJ
import Derived.Test.YtblaldahhhokmaaDoorFldL
set_option linter.unusedVariables false
namespace Go.Proofs.YtblaldahhhokmaaDoor
open Go.RowKit Go.Lib

theorem goF_list (s : ByteArray) : (goFieldsP isSpaceR s).map (·.data.toList) = fieldsD s.data.toList := by
  have h := goFields_values s
  have h2 := congrArg (List.map fun v => match v with | Value.string b => b.data.toList | _ => []) h
  simpa [List.map_map, Function.comp_def] using h2
theorem goF_inj {s t : ByteArray} (h : fieldsD s.data.toList = fieldsD t.data.toList) : goFieldsP isSpaceR s = goFieldsP isSpaceR t := by
  rw [← goF_list, ← goF_list] at h
  exact (List.map_inj_right (fun a b e => ByteArray.ext (Array.toList_inj.1 e))).1 h

set_option maxRecDepth 100000 in
set_option maxHeartbeats 2000000 in
theorem walk_FnFieldsJoin (s : ByteArray) (w : World) (_hs : s.size ≤ maxLen) (hT : Spaces w) :
    Calls Tryd.prog 8 #[.string s] w fun e w' => e = .returned (.bool true) ∧ Below w.heap.size w w' := by
  have HT := Lib.hid hT
  clear hT
  by_cases hbig : 2147483647 < s.size
  · go_enter Tryd.func8, Tryd.ntmps8
    go_wp2
    go_ret
    exact ⟨rfl, Below.refl _ _⟩
  have hs' : s.size < 2147483648 := by omega
  have hlen := goF_len s
  have hjl := fields_join_len s.data.toList
  rw [← Lib.size_eq] at hjl
  obtain ⟨J, hJ⟩ : ∃ J : ByteArray, J = ⟨(join ((goFieldsP isSpaceR s).map (·.data.toList)) [32]).toArray⟩ := ⟨_, rfl⟩
  have hJl : J.data.toList = join (fieldsD s.data.toList) [32] := by rw [hJ, goF_list]
  have hJs : J.size ≤ s.size := by rw [Lib.size_eq J, hJl]; exact hjl
  have HFJ : Hid (goFieldsP isSpaceR J = goFieldsP isSpaceR s) := Lib.hid (goF_inj (by rw [hJl]; exact fields_join _))
  have HJ := Lib.hid hJ
  have HJl : Hid ((join ((goFieldsP isSpaceR s).map (·.data.toList)) (ByteArray.data ⟨#[32]⟩).toList).length ≤ 140737488355328) := Lib.hid (by
    rw [goF_list]
    show (join (fieldsD s.data.toList) [32]).length ≤ _
    omega)
  clear hJ hJl hjl
  go_enter Tryd.func8, Tryd.ntmps8
  go_wp2_with fail
  refine (StrFields s _ hs' HT.out).mono ?_
  rintro e w2 ⟨v1, rfl, hA, hB2⟩
  have HB2 := Lib.hid hB2
  have HA := Lib.hid hA
  clear hB2 hA
  go_wp2_with fail
  refine (StrJoin (goFieldsP isSpaceR s) _ ⟨#[32]⟩ _ HA.out (by omega) HJl.out).mono ?_
  rintro e w3 ⟨rfl, hB3⟩
  rw [show (⟨(join ((goFieldsP isSpaceR s).map (·.data.toList)) (ByteArray.data ⟨#[32]⟩).toList).toArray⟩ : ByteArray) = J from HJ.out.symm]
  have HAb := Lib.hid (HA.out.below hB3)
  have HB3 := bl3 HB2 hB3
  clear hB3 HA
  go_wp2_with fail
  refine (StrFields J _ (by omega) (HT.out.below HB3.out)).mono ?_
  rintro e w4 ⟨v2, rfl, hA2, hB4⟩
  have HB4 := bl3 HB3 hB4
  have HAc := Lib.hid (HAb.out.below hB4)
  rw [HFJ.out] at hA2
  have HA2 := Lib.hid hA2
  clear hB4 hA2 HAb
  go_wp2_with fail
  refine (SeSame (goFieldsP isSpaceR s) _ _ _ HA2.out HAc.out (by omega)).mono ?_
  rintro e w5 ⟨rfl, rfl⟩
  go_wp2_with fail
  obtain ⟨ab, hab⟩ : ∃ ab : ByteArray, ab = ⟨#[97, 32, 98]⟩ := ⟨_, rfl⟩
  rw [← hab]
  refine (StrFields ab _ (by rw [hab]; decide) (HT.out.below HB4.out)).mono ?_
  rintro e w6 ⟨v4, rfl, hA4, hB5⟩
  obtain ⟨A, c, rfl⟩ := hA4.slice
  have HB5 := bl3 HB4 hB5
  rw [hab, ab_fields]
  clear hA4 hB5 hab
  go_wp2_with fail
  go_ret
  exact ⟨rfl, HB5.out⟩
end Go.Proofs.YtblaldahhhokmaaDoor

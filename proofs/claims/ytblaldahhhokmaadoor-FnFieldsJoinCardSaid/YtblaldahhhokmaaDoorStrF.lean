/- impl.StrFields at every text. -/
import Derived.Test.YtblaldahhhokmaaDoorSpc
import Derived.Test.YtblaldahhhokmaaDoorSplA
import Derived.Test.YtblaldahhhokmaaDoorWStrSplit
set_option linter.unusedVariables false
namespace Go.Proofs.YtblaldahhhokmaaDoor
open Go.RowKit Go.Lib

/-- What the tables of white space hold. -/
def Spaces (w : World) : Prop := White w ∧ Asc0 w
theorem Spaces.below {w w' : World} (h : Spaces w) (hb : Below w.heap.size w w') : Spaces w' := ⟨h.1.below hb, h.2.below hb⟩

theorem goF_len (s : ByteArray) : (goFieldsP isSpaceR s).length ≤ s.size := by
  rw [goFields_count]
  have h2 : ∀ f cur (l : List UInt8), (fieldsGoD f cur l).length ≤ l.length + (if cur = [] then 0 else 1) := by
    intro f
    induction f with
    | zero => intro cur l; unfold fieldsGoD; split <;> simp_all
    | succ f ih =>
      intro cur l
      unfold fieldsGoD
      by_cases hl : l = []
      · rw [if_pos hl]; split <;> simp_all
      · rw [if_neg hl]
        have hw : 1 ≤ (decodeL l).2 := width_pos _ _
        have hll : 1 ≤ l.length := by cases l <;> simp_all
        split
        · rw [List.length_append]
          have := ih [] (l.drop (decodeL l).2)
          rw [if_pos rfl, List.length_drop] at this
          split <;> simp <;> omega
        · have := ih (cur ++ l.take (decodeL l).2) (l.drop (decodeL l).2)
          rw [List.length_drop] at this
          split at this <;> split <;> omega
  have := h2 (s.data.toList.length + 1) [] s.data.toList
  rw [if_pos rfl, ← Lib.size_eq] at this
  exact this

theorem gFieldsS (s : ByteArray) (w : World) (hs : s.size < 4294967281) (hT : Spaces w) :
    Calls Tryd.prog 38 #[.string s] w fun e w' => ∃ v, e = .returned v ∧ StrsAt w' v (goFieldsP isSpaceR s) ∧ Below w.heap.size w w' :=
  (gFields s w hs hT.2 hT.1).mono fun e w' ⟨A, he, ho, hb⟩ => ⟨_, he, by
    rw [← goFields_values, ← goFields_count] at ho
    rw [← goFields_count]
    exact StrsAt.of_own ho, hb⟩

theorem StrFields (s : ByteArray) (w : World) (hs : s.size < 2147483648) (hT : Spaces w) :
    Calls Tryd.prog 16 #[.string s] w fun e w' => ∃ v, e = .returned v ∧ StrsAt w' v (goFieldsP isSpaceR s) ∧ Below w.heap.size w w' := by
  have HG := Lib.hid (gFieldsS s w (by omega) hT)
  have hl := goF_len s
  have CC := fun v W hv => Lib.hid (CloneS (goFieldsP isSpaceR s) v W hv (by omega))
  have HC := Lib.hid CC
  clear CC hT
  go_enter Tryd.func16, Tryd.ntmps16
  go_wp2_with (first | (go_at_call 38; refine HG.out.mono ?_; rintro e w1 ⟨v, rfl, hv, hB⟩; have HV := Lib.hid hv; have HB := Lib.hid hB; clear hv hB) | (go_at_call 37; refine (HC.out _ _ HV.out).out.mono ?_; rintro e w2 ⟨v2, rfl, hv2, hB2⟩; have HV2 := Lib.hid hv2; have HB2 := Lib.hid hB2; clear hv2 hB2))
  go_ret
  exact ⟨_, rfl, HV2.out, HB.out.trans (HB2.out.mono HB.out.size)⟩

theorem ab_fields : (goFieldsP isSpaceR ⟨#[97, 32, 98]⟩).length = 2 := by rw [goFields_count]; decide +kernel
end Go.Proofs.YtblaldahhhokmaaDoor

/- gobytes.Index over slices: every case; BytIndex. -/
import Derived.Test.YtpaieadnicmplaaDoorBIdx
import Derived.Test.YtpaieadnicmplaaDoorIdx
namespace Go.Proofs.YtpaieadnicmplaaDoor
open Go.RowKit Go.Lib

theorem belowDrewN {B : Nat} {a w : World} (h : Below B a w) (n : Nat) : Below B a (w.drewN n) := ⟨h.os, h.tape, h.output, h.size, h.block⟩

theorem convB (w : World) (b o c : Nat) (s : ByteArray) (hc : Lib.Bytes w b o s) : (convert 23 9 (.slice (some ⟨b, o, none⟩) s.size c)).run Tryd.prog w = .ok (.string s) w :=
  Lib.run_convert_whole (P := Tryd.prog) w _ _ _ Tryd.underlying23 Tryd.underlying5 Tryd.underlying9 b o s hc c

set_option maxHeartbeats 2000000 in
set_option maxRecDepth 100000 in
theorem gbIndex (b1 o1 c1 b2 o2 c2 : Nat) (s sub : ByteArray) (w : World) (hs : s.size < 4294967281)
    (hc1 : Hid (Lib.Bytes w b1 o1 s)) (hc2 : Hid (Lib.Bytes w b2 o2 sub)) (hcap : s.size ≤ c1) :
    Calls Tryd.prog 56 #[.slice (some ⟨b1, o1, none⟩) s.size c1, .slice (some ⟨b2, o2, none⟩) sub.size c2] w fun e w' => e = .returned (.int .i64 (Lib.index s.data.toList sub.data.toList)) ∧ ∃ q, w' = w.drewN q := by
  by_cases e0 : sub.size = 0
  · have z0 : (((sub.size : Nat) : Int) == 0) = true := by rw [beq_iff_eq]; omega
    have H := Lib.hid (Lib.zero s sub (.inl z0))
    clear e0
    go_enter Tryd.func56, Tryd.ntmps56
    go_wp2
    go_ret
    exact ⟨ret_int H.out.symm, 0, rfl⟩
  · have z0 : (((sub.size : Nat) : Int) == 0) = false := by rw [beq_eq_false_iff_ne]; omega
    have hne : ¬ sub = ByteArray.empty := fun e => by rw [e] at e0; simp at e0
    by_cases e1 : sub.size = 1
    · have z1 : (((sub.size : Nat) : Int) == 1) = true := by rw [beq_iff_eq]; omega
      have hp : 0 < sub.size := by omega
      have k0 : w.cell? ⟨b2, o2, none⟩ = some (.int .u8 ((sub[0]'hp).toNat : Int)) := by simpa using hc2.out 0 (by omega)
      have H : Hid (Lib.index s.data.toList sub.data.toList = Lib.indexByte s.data.toList (((sub[0]'hp).toNat : Nat) : Int).toNat.toUInt8) := Lib.one s sub e1
      clear e0 e1
      go_enter Tryd.func56, Tryd.ntmps56
      go_wp2_with fail
      refine (gbIndexByte b1 o1 c1 s _ _ (by omega) (byte_le _) hs hc1.out).mono ?_
      rintro e w' ⟨rfl, rfl⟩
      go_wp2
      go_ret
      exact ⟨ret_int (by rw [H.out]; simp), 0, rfl⟩
    · have z1 : (((sub.size : Nat) : Int) == 1) = false := by rw [beq_eq_false_iff_ne]; omega
      by_cases e2 : sub.size = s.size
      · have z2 : (((sub.size : Nat) : Int) == (s.size : Int)) = true := by rw [beq_iff_eq]; omega
        have hcv1 := convB w b1 o1 c1 s hc1.out
        have hcv2 := convB w b2 o2 c2 sub hc2.out
        cases es : (sub.toList == s.toList) with
        | true =>
          have H := Lib.hid (Lib.zero s sub (.inr es))
          clear e0 e1 e2
          go_enter Tryd.func56, Tryd.ntmps56
          go_wp2_with fail
          refine (gbEqual_strs _ _ _ _ _ hcv2 hcv1).mono ?_
          rintro e w' ⟨rfl, rfl⟩
          rw [es]
          go_wp2
          go_ret
          exact ⟨ret_int H.out.symm, 0, rfl⟩
        | false =>
          have H := Lib.hid (Lib.long s sub (by omega) es)
          clear e0 e1 e2
          go_enter Tryd.func56, Tryd.ntmps56
          go_wp2_with fail
          refine (gbEqual_strs _ _ _ _ _ hcv2 hcv1).mono ?_
          rintro e w' ⟨rfl, rfl⟩
          rw [es]
          go_wp2
          go_ret
          exact ⟨ret_int H.out.symm, 0, rfl⟩
      · by_cases hl : s.size < sub.size
        · have es : (sub.toList == s.toList) = false := by
            rw [beq_eq_false_iff_ne]; intro e
            rw [Lib.toList_data, Lib.toList_data] at e
            have := congrArg List.length e
            rw [← Lib.size_eq, ← Lib.size_eq] at this; omega
          have z2 : (((sub.size : Nat) : Int) == (s.size : Int)) = false := by rw [beq_eq_false_iff_ne]; omega
          have H := Lib.hid (Lib.long s sub (by omega) es)
          clear es
          go_enter Tryd.func56, Tryd.ntmps56
          go_wp2
          go_ret
          exact ⟨ret_int H.out.symm, 0, rfl⟩
        · exact gbIndex_long b1 o1 c1 b2 o2 c2 s sub w hs hc1.out hc2.out hcap (by omega) (by omega)

end Go.Proofs.YtpaieadnicmplaaDoor

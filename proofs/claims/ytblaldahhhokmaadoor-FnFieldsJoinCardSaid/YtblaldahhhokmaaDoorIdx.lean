/- The contract of stringslite.Index. -/
import Derived.Test.YtblaldahhhokmaaDoorIdxL
namespace Go.Proofs.YtblaldahhhokmaaDoor
open Go.RowKit Go.Lib

set_option maxHeartbeats 2000000 in
theorem Index (s sub : ByteArray) (w : World) (hs : s.size < 4294967281) :
    Calls Tryd.prog 76 #[.string s, .string sub] w fun e w' => e = .returned (.int .i64 (Lib.index s.data.toList sub.data.toList)) ∧ w = w' := by
  by_cases e0 : sub.size = 0
  · have z0 : (((sub.size : Nat) : Int) == 0) = true := by rw [beq_iff_eq]; omega
    have H := Lib.hid (Lib.zero s sub (.inl z0))
    clear e0
    go_enter Tryd.func76, Tryd.ntmps76
    go_wp2
    all_goals
      go_ret
      exact ⟨ret_int H.out.symm, rfl⟩
  · have z0 : (((sub.size : Nat) : Int) == 0) = false := by rw [beq_eq_false_iff_ne]; omega
    have hne : ¬ sub = ByteArray.empty := fun e => by rw [e] at e0; simp at e0
    by_cases es : (sub.toList == s.toList) = true
    · have H := Lib.hid (Lib.zero s sub (.inr es))
      clear e0
      go_enter Tryd.func76, Tryd.ntmps76
      go_wp2
      go_ret
      exact ⟨ret_int H.out.symm, rfl⟩
    · have es' : (sub.toList == s.toList) = false := by simpa using es
      clear es
      by_cases e1 : sub.size = 1
      · have z1 : (((sub.size : Nat) : Int) == 1) = true := by rw [beq_iff_eq]; omega
        have hp : 0 < sub.size := by omega
        have H : Hid (Lib.index s.data.toList sub.data.toList = Lib.indexByte s.data.toList (((sub[0]'hp).toNat : Nat) : Int).toNat.toUInt8) := Lib.one s sub e1
        clear e0 e1
        go_enter Tryd.func76, Tryd.ntmps76
        go_wp2_with fail
        refine (sIndexByte s _ _ (by omega) (byte_le _) hs).mono ?_
        rintro e w' ⟨rfl, rfl⟩
        go_wp2
        go_ret
        exact ⟨ret_int (by rw [H.out]; simp), rfl⟩
      · have z1 : (((sub.size : Nat) : Int) == 1) = false := by rw [beq_eq_false_iff_ne]; omega
        by_cases hl : s.size ≤ sub.size
        · have H := Lib.hid (Lib.long s sub hl es')
          clear e0 e1
          go_enter Tryd.func76, Tryd.ntmps76
          go_wp2
          go_ret
          exact ⟨ret_int H.out.symm, rfl⟩
        · exact Index_long s sub w hs (by omega) (by omega)
end Go.Proofs.YtblaldahhhokmaaDoor

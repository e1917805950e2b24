/- gobytes.LastIndex over slices: every case. -/
import Derived.Test.YtiggomaoijamhaaLastRkB2
import Derived.Test.YtiggomaoijamhaaLbB
import Derived.Test.YtiggomaoijamhaaBIdx2
namespace Go.Proofs.Ytiggomaoijamhaa
open Go.RowKit Go.Lib

theorem last_nil (s sub : ByteArray) (h0 : sub.size = 0) : Lib.lastIndex s.data.toList sub.data.toList = s.size := by
  have e : sub.data.toList = [] := List.eq_nil_of_length_eq_zero (by simpa using h0)
  rw [e, LastIndex.nil, show ((s.data.toList.length : Nat) : Int) = (s.size : Int) by simp]
theorem last_one (s sub : ByteArray) (h1 : sub.size = 1) (hp : 0 < sub.size) : Lib.lastIndex s.data.toList sub.data.toList = lastB s ⟨#[(((sub[0]'hp).toNat : Nat) : Int).toNat.toUInt8]⟩ := by
  rw [lastB_eq]
  congr 1
  have hl : sub.data.toList.length = 1 := by simpa using h1
  match hd : sub.data.toList, hl with
  | [x], _ =>
    have : sub[0]'hp = x := by
      have h := byte_at' sub 0 hp (by rw [hd]; simp)
      rw [← h]; simp [hd]
    rw [this]
    simp

set_option maxHeartbeats 2000000 in
set_option maxRecDepth 100000 in
theorem gbLast (b1 o1 c1 b2 o2 c2 : Nat) (s sub : ByteArray) (w : World) (hs : s.size < 4294967281)
    (hc1 : Hid (Lib.Bytes w b1 o1 s)) (hc2 : Hid (Lib.Bytes w b2 o2 sub)) (hcap : s.size ≤ c1) :
    Calls Try.prog 44 #[.slice (some ⟨b1, o1, none⟩) s.size c1, .slice (some ⟨b2, o2, none⟩) sub.size c2] w fun e w' => e = .returned (.int .i64 (Lib.lastIndex s.data.toList sub.data.toList)) ∧ ∃ q, w' = w.drewN q := by
  by_cases e0 : sub.size = 0
  · have z0 : (((sub.size : Nat) : Int) == 0) = true := by rw [beq_iff_eq]; omega
    have H := Lib.hid (last_nil s sub e0)
    clear e0
    go_enter Try.func44, Try.ntmps44
    go_wp2
    go_ret
    exact ⟨ret_int H.out.symm, 0, rfl⟩
  · have z0 : (((sub.size : Nat) : Int) == 0) = false := by rw [beq_eq_false_iff_ne]; omega
    by_cases e1 : sub.size = 1
    · have z1 : (((sub.size : Nat) : Int) == 1) = true := by rw [beq_iff_eq]; omega
      have hp : 0 < sub.size := by omega
      have k0 : w.cell? ⟨b2, o2, none⟩ = some (.int .u8 ((sub[0]'hp).toNat : Int)) := by simpa using hc2.out 0 (by omega)
      have H := Lib.hid (last_one s sub e1 hp)
      clear e0 e1
      go_enter Try.func44, Try.ntmps44
      go_wp2_with fail
      refine (LastIndexByteB s _ b1 o1 c1 _ (by omega) (byte_le _) hs hc1).mono ?_
      rintro e w' ⟨rfl, rfl⟩
      go_wp2
      go_ret
      exact ⟨ret_int (by rw [H.out]; simp), 0, rfl⟩
    · have z1 : (((sub.size : Nat) : Int) == 1) = false := by rw [beq_eq_false_iff_ne]; omega
      by_cases e2 : sub.size = s.size
      · have z2 : (((sub.size : Nat) : Int) == (s.size : Int)) = true := by rw [beq_iff_eq]; omega
        have hcv1 := convB w b1 o1 c1 s hc1.out
        have hcv2 := convB w b2 o2 c2 sub hc2.out
        have Hw := Lib.hid (LastIndex.whole s sub e2)
        clear e0 e1 e2
        cases es : (s.toList == sub.toList) with
        | true =>
          have heq : sub = s := (LastIndex.eq_of_toList (by simpa using es)).symm
          have H : Hid (Lib.lastIndex s.data.toList sub.data.toList = 0) := by have := Hw.out; rw [if_pos heq] at this; exact this.symm
          clear heq
          go_enter Try.func44, Try.ntmps44
          go_wp2_with fail
          refine (gbEqual_strs _ _ _ _ _ hcv1 hcv2).mono ?_
          rintro e w' ⟨rfl, rfl⟩
          rw [es]
          go_wp2
          go_ret
          exact ⟨ret_int H.out.symm, 0, rfl⟩
        | false =>
          have H : Hid (Lib.lastIndex s.data.toList sub.data.toList = -1) := by
            have := Hw.out
            rw [if_neg (by rintro rfl; simp at es)] at this
            exact this.symm
          go_enter Try.func44, Try.ntmps44
          go_wp2_with fail
          refine (gbEqual_strs _ _ _ _ _ hcv1 hcv2).mono ?_
          rintro e w' ⟨rfl, rfl⟩
          rw [es]
          go_wp2
          go_ret
          exact ⟨ret_int H.out.symm, 0, rfl⟩
      · have z2 : (((sub.size : Nat) : Int) == (s.size : Int)) = false := by rw [beq_eq_false_iff_ne]; omega
        by_cases hl : s.size < sub.size
        · have H : Hid (Lib.lastIndex s.data.toList sub.data.toList = -1) := LastIndex.longer _ _ (by simpa using hl)
          go_enter Try.func44, Try.ntmps44
          go_wp2
          go_ret
          exact ⟨ret_int H.out.symm, 0, rfl⟩
        · go_enter Try.func44, Try.ntmps44
          go_wp2_with fail
          refine (LastIndexRabinKarpB b1 o1 c1 b2 o2 c2 s sub (by omega) (by omega) hs w hc1.out hc2.out hcap).mono ?_
          rintro e w' ⟨rfl, q, rfl⟩
          go_wp2
          go_ret
          exact ⟨rfl, q, rfl⟩
end Go.Proofs.Ytiggomaoijamhaa

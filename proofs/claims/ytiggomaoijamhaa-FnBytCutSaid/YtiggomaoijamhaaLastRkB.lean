/- LastIndexRabinKarp over slices of bytes. -/
import Derived.Test.YtiggomaoijamhaaLastS
import Derived.Test.YtiggomaoijamhaaRkB
import Derived.Shelf.Bytes.SlSearch0
namespace Go.Proofs.Ytiggomaoijamhaa
open Go.RowKit Go.Lib

set_option maxHeartbeats 4000000 in
set_option maxRecDepth 100000 in
theorem hashStrRevB (b o c : Nat) (sep : ByteArray) (hs : sep.size < 4294967281) (w : World) (hc : Lib.Bytes w b o sep) :
    Calls Try.prog 52 #[.slice (some ⟨b, o, none⟩) sep.size c] w fun e w' => e = .returned (.tuple #[.int .u32 (RK.H sep.data.toList.reverse % 4294967296), .int .u32 (16777619 ^ sep.size % 4294967296)]) ∧ w' = w := by
  have C : Aside (Lib.Bytes w b o sep) := hc
  clear hc
  go_enter Try.func52, Try.ntmps52
  go_wp2
  go_loop [4, 5] (fun vh vi => ∃ (k : Nat) (h : Int), k ≤ sep.size ∧ vi = .int .i64 ((k : Int) - 1) ∧ vh = .int .u32 h ∧ Hid (h = RK.H (sep.data.toList.drop k).reverse % 4294967296)) (fun _ vi => ((RowKit.intOf vi) + 1).toNat)
  case atStart => exact ⟨sep.size, 0, Nat.le_refl _, rfl, rfl, by show (0 : Int) = _; rw [List.drop_of_length_le (by simp)]; rfl⟩
  case round =>
    obtain ⟨k, h, hk, rfl, rfl, hh⟩ := hrel
    by_cases k1 : 1 ≤ k
    · have ck := C.out (k - 1) (by omega)
      go_wp2
      go_round
      case rel => exact ⟨k - 1, _, by omega, by congr 1; omega, rfl, LastIndex.hashrev_step sep k k1 hk hh.out⟩
      case measure => simp [RowKit.intOf]; omega
    · have hk2 : k = 0 := by omega
      subst hk2
      clear k1
      go_wp2
      go_loop [6, 7, 8] (fun vp vq vi => ∃ (i : Nat) (pw sq : Int), vi = .int .i64 i ∧ vp = .int .u32 pw ∧ vq = .int .u32 sq ∧ 0 ≤ pw ∧ pw < 4294967296 ∧ i ≤ sep.size ∧ Hid (RK.PowInv sep.size i pw sq)) (fun _ _ vi => (RowKit.intOf vi).toNat)
      case atStart => exact ⟨sep.size, 1, 16777619, rfl, rfl, rfl, by omega, by omega, Nat.le_refl _, RK.pow_start _⟩
      case round =>
        obtain ⟨i, pw, sq, rfl, rfl, rfl, p0, p1, hi, hinv⟩ := hrel
        have ea := and_one i (by omega)
        go_wp2
        · have ht : ((i : Int) % 2 != 0) = true := by assumption
          have ho : i % 2 = 1 := by simp at ht; omega
          go_round
          case rel => exact ⟨i / 2, _, _, by first | go_num | (congr 1; omega), rfl, rfl, by omega, by omega, by omega, RK.pow_odd hinv.out ho⟩
          case measure => simp [RowKit.intOf]; omega
        · have ht : ((i : Int) % 2 != 0) = false := by assumption
          have he : i % 2 = 0 := by simp at ht; omega
          go_round
          case rel => exact ⟨i / 2, _, _, by first | go_num | (congr 1; omega), rfl, rfl, p0, p1, by omega, RK.pow_even hinv.out he⟩
          case measure => simp [RowKit.intOf]; omega
        · have hi0 : i = 0 := by omega
          subst hi0
          have e1 : h = RK.H sep.data.toList.reverse % 4294967296 := by
            have := hh.out
            rwa [List.drop_zero] at this
          have e2 := RK.pow_end hinv.out p0 p1
          go_ret2
          rw [← e1, ← e2]
          exact ⟨rfl, rfl⟩
end Go.Proofs.Ytiggomaoijamhaa

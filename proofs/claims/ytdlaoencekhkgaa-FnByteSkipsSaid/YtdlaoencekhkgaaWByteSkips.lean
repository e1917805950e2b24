/- FnByteSkips: the walk. -/
import Derived.Test.YtdlaoencekhkgaaBSk
set_option linter.unusedVariables false
namespace Go.Proofs.Ytdlaoencekhkgaa
open Go.RowKit Go.Lib

set_option maxRecDepth 100000 in
set_option maxHeartbeats 2000000 in
theorem walk_FnByteSkips (p : ByteArray) (w : World) (_hp : p.size ≤ maxLen) :
    Calls Try.prog 4 #[.string p] w fun e w' => e = .returned (.bool true) ∧ Below w.heap.size w w' := by
  by_cases hbig : 2147483647 < p.size
  · go_enter Try.func4, Try.ntmps4
    go_wp2
    go_ret
    exact ⟨rfl, Below.refl _ _⟩
  by_cases h0 : p.size = 0
  · obtain rfl : p = ByteArray.empty := ByteArray.ext (Array.eq_empty_of_size_eq_zero h0)
    go_enter Try.func4, Try.ntmps4
    go_wp2
    go_ret
    exact ⟨rfl, Below.refl _ _⟩
  have hne : p.toList.isEmpty = false := by
    rw [Lib.toList_data]
    cases h : p.data.toList with
    | nil => exact absurd (by rw [Lib.size_eq, h]; rfl) h0
    | cons a l => rfl
  go_enter Try.func4, Try.ntmps4
  go_wp2_with fail
  refine (Skips p _ (by omega) (by omega)).mono ?_
  rintro e w1 ⟨T, c, v, rfl, hc, hB⟩
  have HC := Lib.hid hc
  have HB := Lib.hid hB
  clear hc hB
  go_wp2_with fail
  go_loop [21] (fun cv => ∃ k : Nat, k ≤ 256 ∧ cv = .int .i64 k) (fun cv => 256 - (RowKit.intOf cv).toNat)
  case atStart => exact ⟨0, Nat.zero_le _, rfl⟩
  case round =>
    obtain ⟨k, hk, rfl⟩ := hrel
    by_cases hlt : k < 256
    · go_wp2_with fail
      go_loop [6, 7] (fun wv iv => ∃ i : Nat, i ≤ p.size - 1 ∧ iv = .int .i64 i ∧ wv = .int .i64 (bcTo p k i : Nat)) (fun _ iv => p.size - 1 - (RowKit.intOf iv).toNat)
      case atStart => exact ⟨0, Nat.zero_le _, rfl, rfl⟩
      case round =>
        obtain ⟨i, hi, rfl, rfl⟩ := hrel
        by_cases hlt2 : i < p.size - 1
        · have hltz : (i : Int) < (p.size : Int) - 1 := by omega
          have his : i < p.size := by omega
          have hb256 := (p[i]).toNat_lt
          have hbi : bt p i = p[i] := bt_at p i his
          by_cases hc : (p[i]).toNat = k
          · have hbc : bcTo p k (i + 1) = p.size - 1 - i := by rw [bcTo, hbi, if_pos hc]
            have hcz : (((p[i]).toNat : Int) == (k : Int)) = true := beq_iff_eq.2 (by omega)
            go_wp2_with fail
            go_round
            case rel => exact ⟨i + 1, by omega, by go_num, by rw [hbc]; go_num⟩
            case measure => simp [RowKit.intOf]; omega
          · have hbc : bcTo p k (i + 1) = bcTo p k i := by rw [bcTo, hbi, if_neg hc]
            have hcz : (((p[i]).toNat : Int) == (k : Int)) = false := beq_eq_false_iff_ne.2 (by omega)
            go_wp2_with fail
            go_round
            case rel => exact ⟨i + 1, by omega, by go_num, by rw [hbc]⟩
            case measure => simp [RowKit.intOf]; omega
        · obtain rfl : i = p.size - 1 := by omega
          have hcell : w1.cell? ⟨T, k, none⟩ = some (.int .i64 (bcTo p k (p.size - 1) : Nat)) := HC.out k hlt
          have hltz : ¬ (((p.size - 1 : Nat) : Int) < (p.size : Int) - 1) := by omega
          go_wp2_with fail
          go_round
          case rel => exact ⟨k + 1, by omega, by go_num⟩
          case measure => simp [RowKit.intOf]; omega
    · obtain rfl : k = 256 := by omega
      go_wp2_with fail
      go_ret
      exact ⟨rfl, HB.out⟩
end Go.Proofs.Ytdlaoencekhkgaa

/- count, for a text of one byte. -/
import Derived.Test.YtnigbgablginnaaRepD
set_option linter.unusedVariables false
namespace Go.Proofs.Ytnigbgablginnaa
open Go.RowKit Go.Lib

theorem take_count_succ (s : ByteArray) (x : UInt8) (k : Nat) (h : k < s.size) : (s.data.toList.take (k + 1)).count x = (s.data.toList.take k).count x + (if s[k] = x then 1 else 0) := by
  have h1 : s.data.toList[k]? = some s[k] := byte_at s k h
  rw [List.take_add_one, h1, List.count_append]
  show _ + List.count x [s[k]] = _
  rw [List.count_singleton]
  congr 1
  by_cases e : s[k] = x
  · simp [e]
  · simp [e]
theorem ext_one (s sub : ByteArray) (x : UInt8) (k : Nat) (h : k < s.size) (hx : sub.data.toList = [x]) : ((s.extract k (k + 1)).toList == sub.toList) = decide (s[k] = x) := by
  rw [Go.ByteArray.toList_eq, Go.ByteArray.toList_eq, hx, Lib.extract_data]
  have h1 : k < s.data.toList.length := by simpa using h
  rw [List.drop_eq_getElem_cons h1, show k + 1 - k = 1 by omega]
  have e : s.data.toList[k] = s[k] := by
    have := byte_at s k h
    rw [List.getElem?_eq_getElem h1] at this
    exact Option.some.inj this
  rw [e]
  show ([s[k]] == [x]) = _
  by_cases h' : s[k] = x
  · simp [h']
  · simp [h']
set_option maxRecDepth 100000 in
set_option maxHeartbeats 2000000 in
theorem countB (s sub : ByteArray) (x : UInt8) (w : World) (hs : s.size ≤ 140737488355328) (hx : sub.data.toList = [x]) :
    Calls Try.prog 98 #[.string s, .string sub] w fun e w' => e = .returned (.int .i64 (s.data.toList.count x : Nat)) ∧ w' = w := by
  have h1 : sub.size = 1 := by rw [Lib.size_eq, hx]; rfl
  have hz1 : (sub.size : Int) = 1 := by omega
  have HXX := Lib.hid hx
  clear hx
  go_enter Try.func98, Try.ntmps98
  go_wp2_with fail
  go_loop [5, 6] (fun nv iv => ∃ k : Nat, k ≤ s.size ∧ iv = .int .i64 k ∧ nv = .int .i64 ((s.data.toList.take k).count x : Nat)) (fun _ iv => s.size - (RowKit.intOf iv).toNat)
  case atStart => exact ⟨0, Nat.zero_le _, rfl, rfl⟩
  case round =>
    obtain ⟨k, hk, rfl, rfl⟩ := hrel
    have hcl : (s.data.toList.take k).count x ≤ k := Nat.le_trans List.count_le_length (by rw [List.length_take]; exact Nat.min_le_left _ _)
    by_cases hlt : k < s.size
    · have hle : (k : Int) + 1 ≤ (s.size : Int) := by omega
      have hc := take_count_succ s x k hlt
      have hx2 := ext_one s sub x k hlt HXX.out
      by_cases hq : s[k] = x
      · rw [if_pos hq] at hc
        have HC := Lib.hid hc
        rw [decide_eq_true hq] at hx2
        clear hq hc
        generalize hn : (s.data.toList.take k).count x = n at HC hcl ⊢
        go_wp2_with fail
        go_round
        case rel => exact ⟨k + 1, by omega, by go_num, by rw [HC.out]; go_num⟩
        case measure => simp [RowKit.intOf]; omega
      · rw [if_neg hq] at hc
        have HC := Lib.hid hc
        rw [decide_eq_false hq] at hx2
        clear hq hc
        generalize hn : (s.data.toList.take k).count x = n at HC hcl ⊢
        go_wp2_with fail
        go_round
        case rel => exact ⟨k + 1, by omega, by go_num, by rw [HC.out]; rfl⟩
        case measure => simp [RowKit.intOf]; omega
    · have hle : ¬ ((k : Int) + 1 ≤ (s.size : Int)) := by omega
      have he : (s.data.toList.take k).count x = s.data.toList.count x := by rw [List.take_of_length_le (by have := Lib.size_eq s; omega)]
      rw [he]
      clear he hcl
      go_wp2_with fail
      go_ret
      exact ⟨rfl, rfl⟩
end Go.Proofs.Ytnigbgablginnaa

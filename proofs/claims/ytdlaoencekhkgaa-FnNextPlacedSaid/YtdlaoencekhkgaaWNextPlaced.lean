/- FnNextPlaced: the walk. -/
import Derived.Test.YtdlaoencekhkgaaFinN
import Derived.Lib.IndexMore
set_option linter.unusedVariables false
namespace Go.Proofs.Ytdlaoencekhkgaa
open Go.RowKit Go.Lib

def SomeB (v : Value) (w : World) (e : Ending) (w' : World) : Prop := e = .returned v ∧ Below w.heap.size w w'
set_option maxHeartbeats 1000000 in
theorem ZZNext (p s : ByteArray) (w : World) (h1 : 1 ≤ p.size) (hp : p.size ≤ 2147483647) (hs : s.size < 140737488355328) :
    Calls Try.prog 45 #[.string p, .string s] w (SomeB (.int .i64 (index s.data.toList p.data.toList)) w) := by
  go_enter Try.func45, Try.ntmps45
  go_wp2_with fail
  refine (makeFinder p w hp h1).mono ?_
  rintro e w1 ⟨F, G, S, rfl, hA, hG, hF0, hG0, hB⟩
  have HA := Lib.hid hA
  have HB := Lib.hid hB
  clear hA hB
  go_wp2_with fail
  refine (finNext F G s p S w1 HA.out hG h1 hp hs).mono ?_
  rintro e w2 ⟨n, rfl, rfl⟩
  go_wp2_with fail
  go_ret
  exact ⟨rfl, belowDrewN HB.out _⟩
theorem INext (p s : ByteArray) (w : World) (h1 : 1 ≤ p.size) (hp : p.size ≤ 2147483647) (hs : s.size < 140737488355328) :
    Calls Try.prog 29 #[.string p, .string s] w (SomeB (.int .i64 (index s.data.toList p.data.toList)) w) := by
  go_enter Try.func29, Try.ntmps29
  go_wp2_with fail
  refine (ZZNext p s w h1 hp hs).mono ?_
  rintro e w1 ⟨rfl, hB⟩
  have HB := Lib.hid hB
  clear hB
  go_wp2_with fail
  go_ret
  exact ⟨rfl, HB.out⟩

theorem neB {c : ByteArray} (h : 1 ≤ c.size) : c.toList.isEmpty = false := by
  rw [Go.ByteArray.toList_eq]
  cases hc : c.data.toList with
  | nil => have := Lib.size_eq c; rw [hc, List.length_nil] at this; omega
  | cons _ _ => rfl
theorem emptyB (c : ByteArray) (h : c.size = 0) : c = ByteArray.empty := by
  apply ByteArray.ext; apply Array.toList_inj.1; apply List.length_eq_zero_iff.1
  rw [Array.length_toList]; exact h
/-- A piece of a text stands there or ahead. -/
theorem placed (a p b : ByteArray) : ∃ k : Nat, index (a ++ p ++ b).data.toList p.data.toList = k ∧ k ≤ a.size ∧ atB (a ++ p ++ b) p k = true := by
  have hl : (a ++ p ++ b).data.toList = a.data.toList ++ (p.data.toList ++ b.data.toList) := by simp [ByteArray.data_append]
  have ho : occAt (a ++ p ++ b).data.toList p.data.toList a.size = true := by
    unfold occAt
    rw [hl, List.isPrefixOf_iff_prefix]
    refine ⟨b.data.toList, ?_⟩
    rw [show a.size = a.data.toList.length from Lib.size_eq a, List.drop_left]
  rcases index_spec (a ++ p ++ b).data.toList p.data.toList with ⟨hm, hno⟩ | ⟨k, hk, hkl, hocc, hno⟩
  · have := hno a.size (by rw [hl]; simp)
    rw [ho] at this; cases this
  · have hka : k ≤ a.size := by
      rcases Nat.lt_or_ge a.size k with h | h
      · have := hno a.size h
        rw [ho] at this; cases this
      · exact h
    exact ⟨k, hk, hka, by rw [atB_occ _ _ k (by simp [ByteArray.size_append] at hkl ⊢; omega)]; exact hocc⟩

set_option maxRecDepth 100000 in
set_option maxHeartbeats 2000000 in
theorem walk_FnNextPlaced (a p b : ByteArray) (w : World) (_ha : a.size ≤ maxLen) (_hp : p.size ≤ maxLen) (_hb : b.size ≤ maxLen) :
    Calls Try.prog 5 #[.string a, .string p, .string b] w fun e w' => e = .returned (.bool true) ∧ Below w.heap.size w w' := by
  by_cases h1 : 2147483647 < a.size
  · go_enter Try.func5, Try.ntmps5
    go_wp2
    go_ret
    exact ⟨rfl, Below.refl _ _⟩
  by_cases h2 : 2147483647 < p.size
  · go_enter Try.func5, Try.ntmps5
    go_wp2
    go_ret
    exact ⟨rfl, Below.refl _ _⟩
  by_cases h3 : 2147483647 < b.size
  · go_enter Try.func5, Try.ntmps5
    go_wp2
    go_ret
    exact ⟨rfl, Below.refl _ _⟩
  by_cases h0 : p.size = 0
  · rw [emptyB p h0]
    go_enter Try.func5, Try.ntmps5
    go_wp2
    go_ret
    exact ⟨rfl, Below.refl _ _⟩
  have hne := neB (c := p) (by omega)
  obtain ⟨k, hk, hka, hat⟩ := placed a p b
  have hz : (a ++ p ++ b).size < 140737488355328 := by simp [ByteArray.size_append]; omega
  have hz2 : k ≤ (a ++ p ++ b).size := by simp [ByteArray.size_append]; omega
  have HK := Lib.hid hk
  have HAt := Lib.hid hat
  have HZ := Lib.hid hz
  clear hk hat hz hz2
  go_enter Try.func5, Try.ntmps5
  go_wp2_with (first | (go_at_call 29; refine (INext p (a ++ p ++ b) _ (by omega) (by omega) HZ.out).mono ?_; rintro e w1 ⟨rfl, hB⟩; rw [HK.out]; have HB := Lib.hid hB; clear hB) | (go_at_call 30; refine (StartsAt (a ++ p ++ b) p _ _ HZ.out (by omega) (by omega) (by omega)).mono ?_; rintro e w' ⟨rfl, rfl⟩; rw [HAt.out]))
  go_ret
  exact ⟨rfl, HB.out⟩
end Go.Proofs.Ytdlaoencekhkgaa

/- Plain: bytes by texts. -/
import Derived.Test.YtnigbgablginnaaAppR
set_option linter.unusedVariables false
namespace Go.Proofs.Ytnigbgablginnaa
open Go.RowKit Go.Lib

/-- The first k pairs. -/
def btK (o : ByteArray) (ns : List ByteArray) : Nat → List ByteArray
  | 0 => []
  | k + 1 => btK o ns k ++ [o.extract k (k + 1), ns.getD k ByteArray.empty]
theorem btK_len (o : ByteArray) (ns : List ByteArray) (k : Nat) : (btK o ns k).length = 2 * k := by
  induction k with
  | zero => rfl
  | succ k ih => rw [btK, List.length_append, ih]; simp; omega
theorem btK_mem (o : ByteArray) (ns : List ByteArray) : ∀ k x, x ∈ btK o ns k → x.size ≤ 1 ∨ x ∈ ns
  | 0, x, h => by cases h
  | k + 1, x, h => by
    rw [btK] at h
    rcases List.mem_append.1 h with h | h
    · exact btK_mem o ns k x h
    · simp only [List.mem_cons, List.not_mem_nil, or_false] at h
      rcases h with rfl | rfl
      · left; rw [ByteArray.size_extract]; omega
      · rw [List.getD_eq_getElem?_getD]
        cases hk : ns[k]? with
        | none => left; decide
        | some y => right; exact List.mem_of_getElem? hk
def btP (o : ByteArray) (ns : List ByteArray) (k : Nat) : Bs × Bs := ((o.extract k (k + 1)).data.toList, (ns.getD k ByteArray.empty).data.toList)
theorem prs_btK (o : ByteArray) (ns : List ByteArray) (k : Nat) : prs (btK o ns k) = (List.range k).map (btP o ns) := by
  induction k with
  | zero => rfl
  | succ k ih =>
    rw [btK, List.range_succ, List.map_append, ← ih]
    unfold prs
    rw [List.map_append, pairUp_append _ _ (by rw [List.length_map, btK_len]; omega)]; rfl
theorem piece1 (o : ByteArray) (k : Nat) (h : k < o.size) : (o.extract k (k + 1)).data.toList = [o[k]] := by
  have e1 : (o.extract k (k + 1)).data.toList = (o.data.toList.drop k).take (k + 1 - k) := Lib.extract_data ..
  have hk : k < o.data.toList.length := by rw [← Lib.size_eq]; exact h
  rw [e1, List.drop_eq_getElem_cons hk, show k + 1 - k = 1 by omega]
  rfl
theorem btP_one (o : ByteArray) (ns : List ByteArray) : bytesOnly (prs (btK o ns o.size)) := fun p hp => by
  rw [prs_btK] at hp
  obtain ⟨k, hk, rfl⟩ := List.mem_map.1 hp
  show ((o.extract k (k + 1)).data.toList).length = 1
  rw [piece1 o k (List.mem_range.1 hk)]; rfl
/-- No byte before k is c. -/
def NoC (o : ByteArray) (c : UInt8) (k : Nat) : Prop := ∀ j (h : j < o.size), j < k → o[j] ≠ c
theorem NoC.zero (o : ByteArray) (c : UInt8) : NoC o c 0 := fun _ _ h => absurd h (Nat.not_lt_zero _)
theorem NoC.succ {o : ByteArray} {c : UInt8} {k : Nat} (h : NoC o c k) (hk : k < o.size) (hc : o[k] ≠ c) : NoC o c (k + 1) := fun j hj hlt => by
  rcases Nat.lt_or_eq_of_le (Nat.le_of_lt_succ hlt) with h1 | rfl
  · exact h j hj h1
  · exact hc
theorem NoC.hit {o : ByteArray} {ns : List ByteArray} {c : UInt8} {k : Nat} (h : NoC o c k) (hk : k < o.size) (hc : o[k] = c) {y : ByteArray} (hy : ns[k]? = some y) : byteTo (prs (btK o ns o.size)) c = y.data.toList := by
  unfold byteTo
  have hf : (prs (btK o ns o.size)).find? (fun p => p.1 == [c]) = some (btP o ns k) := by
    rw [prs_btK, List.find?_eq_some_iff_getElem]
    refine ⟨?_, k, by simpa using hk, by simp, fun j hj => ?_⟩
    · show ((o.extract k (k + 1)).data.toList == [c]) = true
      rw [piece1 o k hk, hc]; simp
    · have hjo : j < o.size := by omega
      simp only [List.getElem_map, List.getElem_range]
      show (!((o.extract j (j + 1)).data.toList == [c])) = true
      rw [piece1 o j hjo]
      have := h j hjo hj
      simp [this]
  rw [hf]
  show (ns.getD k ByteArray.empty).data.toList = _
  rw [List.getD_eq_getElem?_getD, hy]; rfl
theorem NoC.miss {o : ByteArray} {ns : List ByteArray} {c : UInt8} (h : NoC o c o.size) : byteTo (prs (btK o ns o.size)) c = [c] := by
  unfold byteTo
  have hf : (prs (btK o ns o.size)).find? (fun p => p.1 == [c]) = none := by
    rw [prs_btK, List.find?_eq_none]
    intro p hp
    obtain ⟨j, hj, rfl⟩ := List.mem_map.1 hp
    have hjo := List.mem_range.1 hj
    show ¬ (((o.extract j (j + 1)).data.toList == [c]) = true)
    rw [piece1 o j hjo]
    have := h j hjo hjo
    simp [this]
  rw [hf]
theorem few_bt {o : ByteArray} {ns : List ByteArray} (ho : o.size ≤ 1048576) (hn : ∀ x ∈ ns, x.size ≤ 1048576) (k : Nat) (hk : k ≤ o.size) : Few (btK o ns k) := by
  refine ⟨by rw [btK_len]; omega, by rw [btK_len]; omega, fun x hx => ?_⟩
  rcases btK_mem o ns k x hx with h | h
  · omega
  · have := hn x h; omega
theorem byteTo_len2 {o : ByteArray} {ns : List ByteArray} (hn : ∀ x ∈ ns, x.size ≤ 1048576) (c : UInt8) : (byteTo (prs (btK o ns o.size)) c).length ≤ 1048576 := by
  unfold byteTo
  cases hf : (prs (btK o ns o.size)).find? (fun p => p.1 == [c]) with
  | none => simp
  | some p =>
    have hp := List.mem_of_find?_eq_some hf
    rw [prs_btK] at hp
    obtain ⟨j, hj, rfl⟩ := List.mem_map.1 hp
    show ((ns.getD j ByteArray.empty).data.toList).length ≤ _
    rw [← Lib.size_eq, List.getD_eq_getElem?_getD]
    cases hk : ns[j]? with
    | none => show ByteArray.empty.size ≤ _; decide
    | some y => exact hn y (List.mem_of_getElem? hk)
end Go.Proofs.Ytnigbgablginnaa

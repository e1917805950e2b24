/- The walk of FnJoin. -/
import Derived.Test.YtnigbgablginnaaRepK
import Derived.Test.YtnigbgablginnaaStrArg
set_option linter.unusedVariables false
namespace Go.Proofs.Ytnigbgablginnaa
open Go.RowKit Go.Lib

theorem oldsOf_mem {xs : List ByteArray} {x : ByteArray} (h : x ∈ oldsOf xs) : x ∈ xs := by
  obtain ⟨q, hq, rfl⟩ := List.mem_map.1 h
  obtain ⟨k, hk, e⟩ := List.getElem_of_mem hq
  have : ∀ (l : List ByteArray) (q : BB), q ∈ pairUp l → q.1 ∈ l := fun l => by
    induction l using pairUp.induct with
    | case1 a b r ih =>
      intro q hq
      rcases List.mem_cons.1 hq with rfl | hq
      · simp
      · have := ih q hq; simp [this]
    | case2 l h =>
      intro q hq
      cases l with
      | nil => cases hq
      | cons a r =>
        cases r with
        | nil => cases hq
        | cons b r => exact absurd rfl (h a b r)
  exact this xs q hq
set_option maxRecDepth 100000 in
set_option maxHeartbeats 4000000 in
theorem walk_FnJoin (v : Value) (xs : List ByteArray) (s t : ByteArray) (w : World) (hv : StrsAt w v xs) (hz : ∀ x ∈ xs, x.size ≤ maxLen) (hl : xs.length ≤ maxLen) (_hs : s.size ≤ maxLen) (_ht : t.size ≤ maxLen) (hb : bulkS xs + s.size + t.size ≤ 1048576) :
    Calls Try.prog 13 #[v, .string s, .string t] w fun e w' => e = .returned (.bool true) ∧ Below w.heap.size w w' := by
  have hx1 := bulkS_len xs
  have hx2 : ∀ x ∈ xs, x.size ≤ 1048576 := fun x hx => by have := bulkS_mem hx; omega
  have hfit : fitsB xs = true := fitsB_iff.2 ⟨by omega, fun x hx => by have := hx2 x hx; omega⟩
  have hF := zzFits1 xs v w hv hl (fun x hx => by have := hx2 x hx; omega)
  rw [hfit] at hF
  have HFi := Lib.hid hF
  have hss : s.size ≤ 1048576 := by omega
  have htt : t.size ≤ 1048576 := by omega
  have HRB := Lib.hid (rpBytes xs v w hv (by omega) (fun x hx => by have := hx2 x (oldsOf_mem hx); omega))
  have HV := Lib.hid hv
  clear hF hfit hz hl _hs _ht hv
  by_cases h1 : (oneB (oldsOf xs) && evenB xs) = true
  · rw [h1] at HRB
    have hone : One xs := by
      rw [Bool.and_eq_true] at h1
      exact ⟨of_decide_eq_true h1.2, by omega, fun x hx => by have := hx2 x hx; omega, oneB_iff.1 h1.1⟩
    have hst : (s ++ t).size ≤ 2097152 := by rw [ByteArray.size_append]; omega
    have hbo : bytesOnly (prs xs) := by
      rw [← prs_up]
      exact one_only (fun q hq => hone.2.2.2 _ (pairUp_mem hone.1 hq).1)
    have hj : repl (prs xs) (s ++ t).data.toList true = ((⟨(repl (prs xs) s.data.toList true).toArray⟩ : ByteArray) ++ ⟨(repl (prs xs) t.data.toList true).toArray⟩).data.toList := by
      rw [ByteArray.data_append, ByteArray.data_append, Array.toList_append, Array.toList_append]
      exact repl_join hbo _ _
    have hlen : ∀ u : ByteArray, u.size ≤ 1048576 → (repl (prs xs) u.data.toList true).length ≤ 2199023255552 := fun u hu => by
      rw [repl_bytes hbo, ← prs_up]
      have h1 := fm_len (byteTo ((pairUp xs).map tb)) 2097152 (byteTo_len (by decide) (fun q hq => hone.2.2.1 _ (pairUp_mem hone.1 hq).2.2)) u.data.toList
      have h2 : u.data.toList.length * 2097152 ≤ 1048576 * 2097152 := Nat.mul_le_mul_right _ (by have := Lib.size_eq u; omega)
      omega
    have hl1 := hlen s hss
    have hl2 := hlen t htt
    have HT1 := Lib.hid (fun W hW => rpText1 hone v s W hW (by omega))
    have HT2 := Lib.hid (fun W hW => rpText1 hone v t W hW (by omega))
    have HI := Lib.hid (fun W hW => rpIs1 hone v (s ++ t) _ W hW hst hj)
    generalize repl (prs xs) s.data.toList true = rs at HT1 HI hl1
    generalize repl (prs xs) t.data.toList true = rt at HT2 HI hl2
    have hz1 : (⟨rs.toArray⟩ : ByteArray).size ≤ 2199023255552 := hl1
    have hz2 : (⟨rt.toArray⟩ : ByteArray).size ≤ 2199023255552 := hl2
    clear h1 hone hbo hj hlen hl1 hl2 hst
    go_enter Try.func13, Try.ntmps13
    go_wp2_with (first | (go_at_call 18; (with_reducible refine HFi.out.mono ?_); rintro e w' ⟨rfl, rfl⟩) | (go_at_call 35; (with_reducible refine HRB.out.mono ?_); rintro e w1 ⟨rfl, hB⟩; have HB1 := Lib.hid hB; clear hB) | (go_at_call 22; (with_reducible refine (rpReplaces _).mono ?_); rintro e w2 ⟨rfl, hB⟩; have HB2 := Lib.hid (HB1.out.trans (hB.mono HB1.out.size)); have HC1 := Lib.hid (HT1.out w2 (HV.out.below HB2.out)); clear hB) | (go_at_call 25; (with_reducible refine HC1.out.mono ?_); rintro e w3 ⟨rfl, hB⟩; have HB3 := Lib.hid (HB2.out.trans (hB.mono HB2.out.size)); have HC2 := Lib.hid (HT2.out w3 (HV.out.below HB3.out)); clear hB HC1) | (go_at_call 25; (with_reducible refine HC2.out.mono ?_); rintro e w4 ⟨rfl, hB⟩; have HB4 := Lib.hid (HB3.out.trans (hB.mono HB3.out.size)); have HC3 := Lib.hid (HI.out w4 (HV.out.below HB4.out)); clear hB HC2) | (go_at_call 23; (with_reducible refine HC3.out.mono ?_); rintro e w5 ⟨rfl, hB⟩; have HB5 := Lib.hid (HB4.out.trans (hB.mono HB4.out.size)); clear hB HC3))
    go_ret
    exact ⟨rfl, HB5.out⟩
  · rw [Bool.not_eq_true] at h1
    rw [h1] at HRB
    clear h1
    go_enter Try.func13, Try.ntmps13
    go_wp2_with (first | (go_at_call 18; (with_reducible refine HFi.out.mono ?_); rintro e w' ⟨rfl, rfl⟩) | (go_at_call 35; (with_reducible refine HRB.out.mono ?_); rintro e w1 ⟨rfl, hB⟩; have HB1 := Lib.hid hB; clear hB))
    go_ret
    exact ⟨rfl, HB1.out⟩
end Go.Proofs.Ytnigbgablginnaa

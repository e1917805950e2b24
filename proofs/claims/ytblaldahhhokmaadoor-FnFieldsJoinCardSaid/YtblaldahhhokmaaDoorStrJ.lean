/- StrJoin over a row that a slice holds; SplitAfter; the pieces joined again. -/
import Derived.Test.YtblaldahhhokmaaDoorJoin
import Derived.Test.YtblaldahhhokmaaDoorJoinL
import Derived.Test.YtblaldahhhokmaaDoorWStrSplit
set_option linter.unusedVariables false
namespace Go.Proofs.YtblaldahhhokmaaDoor
open Go.RowKit Go.Lib

theorem StrJoin (xs : List ByteArray) (v : Value) (sep : ByteArray) (w : World) (hv : StrsAt w v xs) (hN : xs.length ≤ 140737488355328)
    (hlen : (Lib.join (xs.map (·.data.toList)) sep.data.toList).length ≤ 140737488355328) :
    Calls Tryd.prog 26 #[v, .string sep] w fun e w' => e = .returned (.string ⟨(Lib.join (xs.map (·.data.toList)) sep.data.toList).toArray⟩) ∧ Below w.heap.size w w' := by
  obtain ⟨A, c, rfl, hc, hx⟩ := hv
  go_enter Tryd.func26, Tryd.ntmps26
  go_wp2_with fail
  by_cases h0 : xs = []
  · subst h0
    refine (gJoin_none A c sep w).mono ?_
    rintro e w' ⟨rfl, rfl⟩
    go_wp2_with fail
    go_ret
    exact ⟨rfl, Below.refl _ _⟩
  · obtain ⟨g, o, rfl, hg, hcell⟩ := hx h0
    refine (gJoin g o c xs sep w hcell hg hN hc hlen).mono ?_
    rintro e w' ⟨rfl, hB⟩
    go_wp2_with fail
    go_ret
    exact ⟨rfl, hB⟩

theorem brk_at (s sep : ByteArray) (h1 : 1 ≤ sep.size) : ∀ n i m, s.size + 1 - i ≤ n → ∀ x ∈ brk s sep i m, atB s sep x = true
  | n, i, m, hn, x, hx => by
    by_cases h : i + sep.size ≤ s.size ∧ 0 < m
    · match n, hn with
      | 0, hn => omega
      | n + 1, hn =>
        obtain ⟨k, rfl⟩ : ∃ k, m = k + 1 := ⟨m - 1, by omega⟩
        cases ha : atB s sep i with
        | true =>
          rw [brk_hit s sep i k h1 h.1 ha] at hx
          rcases List.mem_cons.1 hx with rfl | hx
          · exact ha
          · exact brk_at s sep h1 n (i + sep.size) k (by omega) x hx
        | false =>
          rw [brk_step s sep i _ h.1 ha] at hx
          exact brk_at s sep h1 n (i + 1) (k + 1) (by omega) x hx
    · rw [brk_end s sep i m h] at hx; cases hx
theorem at_list (s sep : ByteArray) (k : Nat) (h : k + sep.size ≤ s.size) (ha : atB s sep k = true) : (s.data.toList.drop k).take sep.size = sep.data.toList := by
  rw [atB_in s sep k h] at ha
  have e := eq_of_beq ha
  rw [Go.ByteArray.toList_eq, Go.ByteArray.toList_eq, part_list, show k + sep.size - k = sep.size by omega] at e
  exact e

/-- Pieces, joined with what they were parted by, are the text. -/
theorem all_join (s sep : ByteArray) : join ((allP s sep 0 (-1)).map (·.data.toList)) sep.data.toList = s.data.toList := by
  unfold allP
  by_cases h0 : sep.size = 0
  · rw [if_pos h0, emptyS sep h0]
    unfold expl
    split
    · next hN =>
      have : s.size = 0 := by
        by_cases hs : s.size = 0
        · exact hs
        · have hl1 : 1 ≤ (starts s 0).length := by rw [starts_cons s 0 (by omega)]; simp
          rw [eN, if_pos (Or.inl (by decide))] at hN
          omega
      rw [emptyS s this]
      rfl
    · have := pieces_join s [] 0 rfl (brkE s (eN s (-1) - 1)) 0 (okB_brkE s _) (fun i _ => by simp)
      exact this
  · rw [if_neg h0]
    have h1 : 1 ≤ sep.size := by omega
    rw [pcs_pieces s sep 0 (-1) (s.size + 1) h1 (Nat.zero_le _) (by decide) (fun _ => by omega) (fun h => by omega)]
    have := pieces_join s sep.data.toList sep.size (Lib.size_eq sep) (brk s sep 0 (s.size + 1)) 0 (okB_brk s sep h1 (s.size + 1) 0 _ (by omega) (Nat.zero_le _) 0 (Nat.le_refl _)) (fun i hi => at_list s sep i (brk_in s sep h1 (s.size + 1) 0 _ (by omega) i hi).2 (brk_at s sep h1 (s.size + 1) 0 _ (by omega) i hi))
    exact this
theorem all_after (s sep : ByteArray) : join ((allP s sep sep.size (-1)).map (·.data.toList)) [] = s.data.toList := by
  by_cases h0 : sep.size = 0
  · have := all_join s sep
    rw [show sep.data.toList = [] from List.eq_nil_of_length_eq_zero (by rw [← Lib.size_eq]; exact h0)] at this
    rw [h0]; exact this
  · unfold allP
    rw [if_neg h0]
    have h1 : 1 ≤ sep.size := by omega
    rw [pcs_pieces s sep sep.size (-1) (s.size + 1) h1 (Nat.le_refl _) (by decide) (fun _ => by omega) (fun h => by omega)]
    exact pieces_after s sep.size (brk s sep 0 (s.size + 1)) 0 (okB_brk s sep h1 (s.size + 1) 0 _ (by omega) (Nat.zero_le _) 0 (Nat.le_refl _))

set_option maxHeartbeats 1000000 in
theorem StrSplitAfter (s sep : ByteArray) (w : World) (hs : s.size < 2147483648) (hT : Tabs w) :
    Calls Tryd.prog 34 #[.string s, .string sep] w fun e w' => ∃ v, e = .returned v ∧ StrsAt w' v (allP s sep sep.size (-1)) ∧ Below w.heap.size w w' := by
  have HG := Lib.hid (gen_any s sep sep.size (-1) w hs (Nat.le_refl _) (by decide) (by decide) (by decide) hT)
  have CC := fun v W hv => Lib.hid (CloneS (allP s sep sep.size (-1)) v W hv (allP_small s sep sep.size (-1) (by decide) hs))
  have HC := Lib.hid CC
  clear CC hT
  go_enter Tryd.func34, Tryd.ntmps34
  go_wp2_with (first | (go_at_call 56; refine HG.out.mono ?_; rintro e w1 ⟨v, rfl, hv, hB⟩; have HV := Lib.hid hv; have HB := Lib.hid hB; clear hv hB) | (go_at_call 51; go_in) | (go_at_call 37; refine (HC.out _ _ HV.out).out.mono ?_; rintro e w2 ⟨v2, rfl, hv2, hB2⟩; have HV2 := Lib.hid hv2; have HB2 := Lib.hid hB2; clear hv2 hB2))
  go_ret
  exact ⟨_, rfl, HV2.out, HB.out.trans (HB2.out.mono HB.out.size)⟩
end Go.Proofs.YtblaldahhhokmaaDoor

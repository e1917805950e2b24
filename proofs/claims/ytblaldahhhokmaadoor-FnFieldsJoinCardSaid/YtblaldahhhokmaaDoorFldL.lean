/- Plain: fields, joined with a blank, have the same fields. -/
import Derived.Lib.SpaceUEq
import Derived.Test.YtblaldahhhokmaaDoorJoinL
set_option linter.unusedVariables false
namespace Go.Proofs.YtblaldahhhokmaaDoor
open Go.Lib

theorem hs_zero (l : List UInt8) : headSpace l = 0 ↔ ∀ q ∈ spaceSeqs, ¬ q <+: l := by
  have hpos : ∀ q ∈ spaceSeqs, 1 ≤ q.length := by decide
  unfold headSpace
  cases h : spaceSeqs.find? (·.isPrefixOf l) with
  | none =>
    rw [List.find?_eq_none] at h
    simpa using h
  | some q =>
    have h1 := List.find?_some h
    have h2 := List.mem_of_find?_eq_some h
    have h3 := hpos q h2
    constructor
    · intro h0; simp at h0; subst h0; simp at h3
    · intro hn; exact absurd (List.isPrefixOf_iff_prefix.1 h1) (hn q h2)
theorem hs_less {y z : List UInt8} (h : headSpace (y ++ z) = 0) : headSpace y = 0 := by
  rw [hs_zero] at h ⊢
  exact fun q hq hp => h q hq (hp.trans (List.prefix_append y z))
theorem hs_blank {y r : List UInt8} (hy : y ≠ []) (h : headSpace y = 0) : headSpace (y ++ 32 :: r) = 0 := by
  have hno : ∀ q ∈ spaceSeqs, 2 ≤ q.length → (32 : UInt8) ∉ q := by decide
  rw [hs_zero] at h ⊢
  intro q hq hp
  by_cases hl : q.length ≤ y.length
  · exact h q hq (List.prefix_of_prefix_length_le hp (List.prefix_append y _) hl)
  · have hyl : 1 ≤ y.length := by cases y <;> simp_all
    have h1 : y ++ [32] <+: q := List.prefix_of_prefix_length_le (l₃ := y ++ 32 :: r) ⟨r, by simp⟩ hp (by simp; omega)
    exact hno q hq (by omega) (h1.subset (by simp))
theorem hs_32 (r : List UInt8) : headSpace (32 :: r) = 1 := by
  unfold headSpace spaceSeqs
  simp [List.find?, List.isPrefixOf]

/-- No space begins anywhere in a text. -/
def Cleanw (x : List UInt8) : Prop := x ≠ [] ∧ ∀ j, j < x.length → headSpace (x.drop j) = 0
theorem words_clean : ∀ f cur l, (∀ j, j < cur.length → headSpace (cur.drop j ++ l) = 0) → ∀ x ∈ fieldsGoU f cur l, Cleanw x
  | 0, cur, l, hI, x, hx => by
    unfold fieldsGoU at hx
    split at hx
    · simp at hx
    · rename_i hne
      obtain rfl : x = cur := by simpa using hx
      exact ⟨hne, fun j hj => hs_less (hI j hj)⟩
  | f + 1, cur, [], hI, x, hx => by
    rw [fieldsGoU_nil] at hx
    split at hx
    · simp at hx
    · rename_i hne
      obtain rfl : x = cur := by simpa using hx
      exact ⟨hne, fun j hj => hs_less (hI j hj)⟩
  | f + 1, cur, b :: t, hI, x, hx => by
    unfold fieldsGoU at hx
    split at hx
    · rename_i h0
      refine words_clean f (cur ++ [b]) t (fun j hj => ?_) x hx
      rw [List.length_append] at hj
      simp at hj
      by_cases hjc : j < cur.length
      · rw [List.drop_append_of_le_length (by omega), List.append_assoc]
        exact hI j hjc
      · obtain rfl : j = cur.length := by omega
        simpa using h0
    · rcases List.mem_append.1 hx with h | h
      · split at h
        · simp at h
        · rename_i hne
          obtain rfl : x = cur := by simpa using h
          exact ⟨hne, fun j hj => hs_less (hI j hj)⟩
      · exact words_clean f [] _ (fun j hj => by simp at hj) x h

theorem fields_words : ∀ ws : List (List UInt8), (∀ x ∈ ws, Cleanw x) → fieldsU (join ws [32]) = ws
  | [], _ => rfl
  | [x], h => by
    obtain ⟨hne, hc⟩ := h x (by simp)
    rw [join_one]
    unfold fieldsU
    rw [show x.length + 1 = 1 + x.length by omega, u_skip x.length 1 [] x (Nat.le_refl _) hc, List.drop_length, fieldsGoU_nil, List.take_length, List.nil_append, if_neg hne]
  | x :: y :: r, h => by
    obtain ⟨hne, hc⟩ := h x (by simp)
    have ih := fields_words (y :: r) (fun z hz => h z (List.mem_cons_of_mem _ hz))
    rw [join_two]
    unfold fieldsU at ih ⊢
    generalize join (y :: r) [32] = J at ih ⊢
    rw [List.append_assoc, show ([32] : List UInt8) ++ J = 32 :: J from rfl]
    rw [show (x ++ 32 :: J).length + 1 = (J.length + 1 + 1) + x.length by simp; omega]
    rw [u_skip x.length (J.length + 1 + 1) [] (x ++ 32 :: J) (by simp) (fun j hj => by
      rw [List.drop_append_of_le_length (by omega)]
      exact hs_blank (by intro e; have := congrArg List.length e; simp at this; omega) (hc j hj))]
    rw [List.take_left, List.drop_left, List.nil_append]
    rw [fieldsGoU, hs_32, if_neg (by decide), if_neg hne, List.drop_succ_cons, List.drop_zero, ih]
    rfl

/-- Fields, joined with a blank, have the same fields. -/
theorem fields_join (l : List UInt8) : fieldsD (join (fieldsD l) [32]) = fieldsD l := by
  rw [← fieldsU_eq, ← fieldsU_eq]
  exact fields_words _ (words_clean _ [] l (fun j hj => by simp at hj))
theorem join_len_le : ∀ (ws : List (List UInt8)), ws ≠ [] → (join ws [32]).length + 1 ≤ (ws.map (fun x => x.length + 1)).sum
  | [], h => absurd rfl h
  | [x], _ => by rw [join_one]; simp
  | x :: y :: r, _ => by
    have := join_len_le (y :: r) (by simp)
    rw [join_two]
    simp only [List.length_append, List.map_cons, List.sum_cons, List.length_cons, List.length_nil] at *
    omega
theorem words_sum : ∀ f cur l, ((fieldsGoU f cur l).map (fun x => x.length + 1)).sum ≤ cur.length + l.length + 1
  | 0, cur, l => by unfold fieldsGoU; split <;> simp
  | f + 1, cur, [] => by rw [fieldsGoU_nil]; split <;> simp
  | f + 1, cur, b :: t => by
    unfold fieldsGoU
    split
    · have := words_sum f (cur ++ [b]) t
      simp at *
      omega
    · rename_i h0
      have := words_sum f [] ((b :: t).drop (headSpace (b :: t)))
      rw [List.map_append, List.sum_append]
      have hl : ((b :: t).drop (headSpace (b :: t))).length ≤ t.length := by rw [List.length_drop]; simp; omega
      split <;> simp at * <;> omega
theorem fields_join_len (l : List UInt8) : (join (fieldsD l) [32]).length ≤ l.length := by
  rw [← fieldsU_eq]
  by_cases hn : fieldsU l = []
  · rw [hn]; exact Nat.zero_le _
  have h1 := join_len_le (fieldsU l) hn
  have h2 := words_sum (l.length + 1) [] l
  unfold fieldsU at *
  simp at h2
  omega
end Go.Proofs.YtblaldahhhokmaaDoor

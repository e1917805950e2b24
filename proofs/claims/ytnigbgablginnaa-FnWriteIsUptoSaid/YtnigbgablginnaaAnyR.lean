/- What a replacer of any pairs makes, within the sizes of the second form. -/
import Derived.Test.YtnigbgablginnaaGenR
import Derived.Test.YtnigbgablginnaaWJoinR
set_option linter.unusedVariables false
namespace Go.Proofs.Ytnigbgablginnaa
open Go.RowKit Go.Lib

theorem repl_len {ps : List (Bs × Bs)} {M : Nat} (hM : ∀ p ∈ ps, p.2.length ≤ M) : ∀ n t e, 2 * t.length + (if e = true then 1 else 0) ≤ n → (repl ps t e).length ≤ n * (M + 1)
  | n, t, e, hn => by
    cases hf : firstP ps t e with
    | some p =>
      rw [repl_hit hf, List.length_append]
      have hp2 := hM p (firstP_mem hf)
      have hfit := firstP_fits hf
      obtain ⟨r, hr⟩ := fits_pre hfit
      cases hp : p.1 with
      | nil =>
        have := fits_empty hfit hp
        subst this
        match n, hn with
        | 0, hn => simp at hn
        | n + 1, hn =>
          have := repl_len hM n (t.drop ([] : Bs).length) (!([] : Bs).isEmpty) (by simp at hn ⊢; omega)
          rw [Nat.succ_mul]; omega
      | cons a b =>
        match n, hn with
        | 0, hn => rw [hr, hp] at hn; simp at hn
        | n + 1, hn =>
          have := repl_len hM n (t.drop (a :: b).length) (!(a :: b).isEmpty) (by
            rw [hr, hp] at hn ⊢
            simp only [List.length_append, List.length_cons, List.length_drop] at hn ⊢
            simp only [List.isEmpty_cons, Bool.not_false, if_true]
            split at hn <;> omega)
          rw [Nat.succ_mul]; omega
    | none =>
      cases t with
      | nil => rw [repl_end hf]; exact Nat.zero_le _
      | cons c r =>
        match n, hn with
        | 0, hn => simp at hn
        | n + 1, hn =>
          rw [repl_step hf, List.length_cons]
          have := repl_len hM n r true (by
            simp only [List.length_cons, if_true] at hn ⊢
            split at hn <;> omega)
          rw [Nat.succ_mul]; omega
/-- Pairs within the sizes of the second form. -/
def Few (xs : List ByteArray) : Prop := xs.length % 2 = 0 ∧ xs.length ≤ 2147483647 ∧ ∀ x ∈ xs, x.size ≤ 2097152
theorem prs_mem {xs : List ByteArray} (he : xs.length % 2 = 0) {p : Bs × Bs} (h : p ∈ prs xs) : ∃ q ∈ pairUp xs, p = tb q := by
  rw [← prs_up] at h
  obtain ⟨q, hq, e⟩ := List.mem_map.1 h
  exact ⟨q, hq, e.symm⟩
theorem few_len {xs : List ByteArray} (h : Few xs) (s : Bs) (hs : s.length ≤ 2097152) : (repl (prs xs) s true).length ≤ 4194305 * 2097153 := by
  have h1 := repl_len (ps := prs xs) (M := 2097152) (fun p hp => by
    obtain ⟨q, hq, rfl⟩ := prs_mem h.1 hp
    show q.2.data.toList.length ≤ _
    rw [← Lib.size_eq]
    exact h.2.2 _ (pairUp_mem h.1 hq).2.2) (2 * s.length + 1) s true (by simp)
  exact Nat.le_trans h1 (Nat.mul_le_mul_right _ (by omega))
theorem impA {xs : List ByteArray} (h : Few xs) (v : Value) (s : ByteArray) (w : World) (hv : StrsAt w v xs) (hs : s.size ≤ 2097152) :
    Calls Try.prog 39 #[v, .string s] w (ImpR (repl (prs xs) s.data.toList true) w) := by
  have hl := few_len h s.data.toList (by rw [← Lib.size_eq]; exact hs)
  obtain ⟨he, hx, hz⟩ := h
  rw [← prs_up] at hl ⊢
  have hp := pairsOf_up xs he
  exact impRep xs (pairUp xs) v _ s w hv hp hx (fun x hx' => by have := hz x hx'; omega) (fun w1 R hR => rep_any hR (by have := hp.1; omega) (fun q hq => ⟨hz _ (pairUp_mem he hq).2.1, hz _ (pairUp_mem he hq).2.2⟩) s hs (Nat.le_trans hl (by decide)))
theorem rpTextA {xs : List ByteArray} (h : Few xs) (v : Value) (s : ByteArray) (w : World) (hv : StrsAt w v xs) (hs : s.size ≤ 2097152) :
    Calls Try.prog 25 #[v, .string s] w (TextR (repl (prs xs) s.data.toList true) w) := rpText v s _ w (impA h v s w hv hs)
theorem rpIsA {xs : List ByteArray} (h : Few xs) (v : Value) (s want : ByteArray) (w : World) (hv : StrsAt w v xs) (hs : s.size ≤ 2097152) (hw : repl (prs xs) s.data.toList true = want.data.toList) :
    Calls Try.prog 23 #[v, .string s, .string want] w (RpIsR true w) := by
  have := rpIs v s want _ w (impA h v s w hv hs)
  rw [hw] at this
  simpa using this
end Go.Proofs.Ytnigbgablginnaa

/- gostrings.IndexRune, whole. -/
import Derived.Test.YtpaieadnicmplaaDoorIRm
set_option linter.unusedVariables false
namespace Go.Proofs.YtpaieadnicmplaaDoor
open Go.RowKit Go.Lib

/-- gostrings.IndexRune: the first place where the code point stands. -/
theorem gIndexRune (s : ByteArray) (r : Int) (w : World) (hs : s.size < 4294967281) :
    Calls Tryd.prog 23 #[.string s, .int .i32 r] w fun e w' => e = .returned (.int .i64 (fP s (isR r) (starts s 0))) ∧ Below w.heap.size w w' := by
  by_cases ha : 0 ≤ r ∧ r < 128
  · exact gIndexRune_ascii s r w hs ha.1 ha.2
  · by_cases hf : r = 65533
    · subst hf; exact gIndexRune_err s w hs
    · have hf' : (r == 65533) = false := by simpa using hf
      cases hv : Utf8.valid r with
      | false => exact gIndexRune_bad s r w hs hv hf'
      | true =>
        have hv2 := (valid_iff r).1 hv
        obtain ⟨h2, h4, _⟩ := encode_facts r hv (by omega)
        exact gIndexRune_main s (Utf8.encode r) r w hs rfl hv2 (by omega) hf' ((Utf8.encode r).size - 1) (by omega) (by omega) (by omega)
          (fun k => fP_occ_hit s r hv (by omega) hf k) (fP_occ_miss s r hv (by omega) hf)

theorem fP_neg (s : ByteArray) (p : Nat → Bool) : ∀ l : List Nat, fP s p l = -1 ∨ ∃ a : Nat, fP s p l = a
  | [] => .inl rfl
  | a :: l => by
    rw [fP_cons]
    split
    · exact .inr ⟨a, rfl⟩
    · exact fP_neg s p l
theorem fP_snoc (s : ByteArray) (p : Nat → Bool) (a : Nat) : ∀ l : List Nat, fP s p (l ++ [a]) = if fP s p l < 0 then (if p (Utf8.decode s a).1 then (a : Int) else -1) else fP s p l
  | [] => by simp [fP]
  | b :: l => by
    rw [List.cons_append, fP_cons, fP_cons, fP_snoc s p a l]
    by_cases h : p (Utf8.decode s b).1 = true
    · rw [if_pos h, if_pos h, if_neg (by omega)]
    · rw [if_neg h, if_neg h]
theorem ab_rune : fP ⟨#[97, 98]⟩ (isR 98) (starts ⟨#[97, 98]⟩ 0) = 1 := by
  rw [fP_ascii _ _ (by decide) (by decide)]; decide

end Go.Proofs.YtpaieadnicmplaaDoor

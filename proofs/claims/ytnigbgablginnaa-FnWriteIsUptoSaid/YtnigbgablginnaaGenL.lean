/- Plain: the rounds of a generic replacer; the tables of the replacers of bytes. -/
import Derived.Test.YtnigbgablginnaaRp
set_option linter.unusedVariables false
namespace Go.Proofs.Ytnigbgablginnaa
open Go.Lib

/-- What is still to be made at place i (one behind the end: nothing). -/
def tailR (ps : List (Bs × Bs)) (s : Bs) (i : Nat) (e : Bool) : Bs := if i ≤ s.length then repl ps (s.drop i) e else []
/-- The state of the loop: out is written, what stands between last and i is still to be written as it is. -/
structure GI (ps : List (Bs × Bs)) (s out : Bs) (last i : Nat) (e : Bool) : Prop where
  le : last ≤ i
  top : i ≤ s.length + 1
  ll : last ≤ s.length
  eq : out ++ ((s.drop last).take (i - last) ++ tailR ps s i e) = repl ps s true
theorem GI.zero (ps : List (Bs × Bs)) (s : Bs) : GI ps s [] 0 0 true := ⟨Nat.le_refl _, Nat.zero_le _, Nat.zero_le _, by simp [tailR]⟩
theorem piece_succ (s : Bs) (last i : Nat) (c : UInt8) (r : Bs) (hl : last ≤ i) (h : s.drop i = c :: r) : (s.drop last).take (i + 1 - last) = (s.drop last).take (i - last) ++ [c] := by
  rw [show i + 1 - last = (i - last) + 1 by omega, List.take_add_one, List.getElem?_drop, show last + (i - last) = i by omega]
  have : s[i]? = some c := by rw [← List.head?_drop, h]; rfl
  rw [this]; rfl
theorem drop_ne {s : Bs} {i : Nat} (h : i < s.length) : ∃ c r, s.drop i = c :: r ∧ s.drop (i + 1) = r := by
  refine ⟨s[i], s.drop (i + 1), List.drop_eq_getElem_cons h, rfl⟩
theorem GI.skip {ps : List (Bs × Bs)} {s out : Bs} {last i : Nat} {e : Bool} (h : GI ps s out last i e) (hs : solid ps) (hi : i < s.length) (hf : firstP ps (s.drop i) e = none) : GI ps s out last (i + 1) e := by
  obtain ⟨c, r, h1, h2⟩ := drop_ne hi
  refine ⟨by have := h.le; omega, by omega, h.ll, ?_⟩
  rw [← h.eq, piece_succ s last i c r h.le h1]
  unfold tailR
  rw [if_pos (by omega), if_pos (by omega), h2, h1]
  rw [h1] at hf
  rw [repl_step hf, repl_solid hs r e]
  simp
theorem GI.miss {ps : List (Bs × Bs)} {s out : Bs} {last i : Nat} {e : Bool} (h : GI ps s out last i e) (hi : i ≤ s.length) (hf : firstP ps (s.drop i) e = none) : GI ps s out last (i + 1) true := by
  refine ⟨by have := h.le; omega, by omega, h.ll, ?_⟩
  rw [← h.eq]
  by_cases he : i = s.length
  · subst he
    unfold tailR
    rw [if_neg (by omega), if_pos (Nat.le_refl _)]
    rw [List.drop_length] at hf ⊢
    rw [repl_end hf, List.take_of_length_le (by rw [List.length_drop]; have := h.le; omega), List.take_of_length_le (by rw [List.length_drop]; omega)]
  · obtain ⟨c, r, h1, h2⟩ := drop_ne (show i < s.length by omega)
    rw [piece_succ s last i c r h.le h1]
    unfold tailR
    rw [if_pos (by omega), if_pos (by omega), h2, h1]
    rw [h1] at hf
    rw [repl_step hf]
    simp
theorem GI.hit {ps : List (Bs × Bs)} {s out : Bs} {last i : Nat} {e : Bool} (h : GI ps s out last i e) (hi : i ≤ s.length) {p : Bs × Bs} (hf : firstP ps (s.drop i) e = some p) :
    i + p.1.length ≤ s.length ∧ GI ps s (out ++ (s.drop last).take (i - last) ++ p.2) (i + p.1.length) (i + p.1.length) (!p.1.isEmpty) := by
  obtain ⟨r, hr⟩ := fits_pre (firstP_fits hf)
  have hl : i + p.1.length ≤ s.length := by
    have := congrArg List.length hr
    rw [List.length_drop, List.length_append] at this; omega
  refine ⟨hl, Nat.le_refl _, by omega, hl, ?_⟩
  rw [← h.eq]
  unfold tailR
  rw [if_pos hl, if_pos hi, repl_hit hf, List.drop_drop]
  simp
theorem GI.done {ps : List (Bs × Bs)} {s out : Bs} {last i : Nat} {e : Bool} (h : GI ps s out last i e) (hi : s.length < i) : out ++ s.drop last = repl ps s true := by
  rw [← h.eq]
  unfold tailR
  rw [if_neg (by omega), List.append_nil, List.take_of_length_le (by rw [List.length_drop]; have := h.le; omega)]
theorem GI.len {ps : List (Bs × Bs)} {s out : Bs} {last i : Nat} {e : Bool} (h : GI ps s out last i e) : out.length ≤ (repl ps s true).length := by rw [← h.eq, List.length_append]; omega
theorem GI.len2 {ps : List (Bs × Bs)} {s out : Bs} {last i : Nat} {e : Bool} (h : GI ps s out last i e) : out.length + min (i - last) (s.length - last) ≤ (repl ps s true).length := by
  rw [← h.eq, List.length_append, List.length_append, List.length_take, List.length_drop]; omega

/-! ### replacers of bytes -/
/-- What bytes become by a table; the first k pairs from behind are laid. -/
theorem byteTo_cons (p : Bs × Bs) (ps : List (Bs × Bs)) (c : UInt8) : byteTo (p :: ps) c = if p.1 == [c] then p.2 else byteTo ps c := by
  unfold byteTo
  rw [List.find?_cons]
  cases p.1 == [c] <;> simp
theorem byteTo_nil (c : UInt8) : byteTo [] c = [c] := rfl

/-- Bytes counted: the length of what comes of a text when the bytes of a list are exchanged. -/
def exch (f : UInt8 → Bs) (L : List UInt8) (c : UInt8) : Bs := if c ∈ L then f c else [c]
theorem exch_len (f : UInt8 → Bs) (L : List UInt8) (x : UInt8) (hx : x ∉ L) : ∀ (s : Bs), ((s.flatMap (exch f (x :: L))).length : Int) = (s.flatMap (exch f L)).length + (s.count x : Int) * ((f x).length - 1)
  | [] => by simp
  | c :: s => by
    have ih := exch_len f L x hx s
    rw [List.flatMap_cons, List.flatMap_cons, List.length_append, List.length_append, List.count_cons]
    by_cases h : c = x
    · subst h
      have e1 : exch f (c :: L) c = f c := by simp [exch]
      have e2 : exch f L c = [c] := by simp [exch, hx]
      rw [e1, e2]
      simp only [List.length_singleton, beq_self_eq_true, if_true, Int.natCast_add, Int.add_mul]
      omega
    · have e1 : exch f (x :: L) c = exch f L c := by simp [exch, h]
      rw [e1]
      have hb : (c == x) = false := by simpa using h
      rw [hb]
      simp only [Bool.false_eq_true, if_false, Nat.add_zero, Int.natCast_add]
      omega
theorem exch_nil (f : UInt8 → Bs) (s : Bs) : s.flatMap (exch f []) = s := by
  induction s with
  | nil => rfl
  | cons c s ih => rw [List.flatMap_cons, ih]; simp [exch]
theorem exch_perm (f : UInt8 → Bs) {L M : List UInt8} (h : ∀ c, c ∈ L ↔ c ∈ M) (c : UInt8) : exch f L c = exch f M c := by
  unfold exch
  by_cases hc : c ∈ L
  · rw [if_pos hc, if_pos ((h c).1 hc)]
  · rw [if_neg hc, if_neg (fun e => hc ((h c).2 e))]
theorem flatMap_same {f : UInt8 → Bs} : ∀ {s : Bs}, (∀ c ∈ s, f c = [c]) → s.flatMap f = s
  | [], _ => rfl
  | c :: s, h => by rw [List.flatMap_cons, h c (by simp), flatMap_same (fun d hd => h d (by simp [hd]))]; rfl
theorem flatMap_take_succ (f : UInt8 → Bs) (s : Bs) (k : Nat) (c : UInt8) (h : s[k]? = some c) : (s.take (k + 1)).flatMap f = (s.take k).flatMap f ++ f c := by
  rw [List.take_add_one, h]
  simp [List.flatMap_append]
end Go.Proofs.Ytnigbgablginnaa

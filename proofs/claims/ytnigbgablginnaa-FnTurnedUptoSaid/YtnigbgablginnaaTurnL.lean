/- Plain: pairs turned. -/
import Derived.Test.YtnigbgablginnaaGenS
set_option linter.unusedVariables false
namespace Go.Proofs.Ytnigbgablginnaa
open Go.RowKit Go.Lib

theorem pairUp_drop {α : Type} : ∀ (l : List α) (k : Nat), pairUp (l.drop (2 * k)) = (pairUp l).drop k
  | l, 0 => by simp
  | [], k + 1 => by simp [pairUp]
  | [x], k + 1 => by
    have : [x].drop (2 * (k + 1)) = [] := List.drop_eq_nil_of_le (by simp; omega)
    rw [this]; simp [pairUp]
  | x :: y :: r, k + 1 => by
    show pairUp (r.drop (2 * k)) = (pairUp r).drop k
    exact pairUp_drop r k
theorem pairUp_take {α : Type} : ∀ (l : List α) (k : Nat), pairUp (l.take (2 * k)) = (pairUp l).take k
  | l, 0 => by simp [pairUp]
  | [], k + 1 => by simp [pairUp]
  | [x], k + 1 => by
    have : [x].take (2 * (k + 1)) = [x] := List.take_of_length_le (by simp; omega)
    rw [this]; simp [pairUp]
  | x :: y :: r, k + 1 => by
    show (x, y) :: pairUp (r.take (2 * k)) = (x, y) :: (pairUp r).take k
    rw [pairUp_take r k]
/-- Those from pair m on first. -/
def turned (xs : List ByteArray) (m : Nat) : List ByteArray := xs.drop (2 * m) ++ xs.take (2 * m)
theorem prs_turned (xs : List ByteArray) (m : Nat) (he : xs.length % 2 = 0) : prs (turned xs m) = (prs xs).drop m ++ (prs xs).take m := by
  unfold prs turned
  rw [List.map_append, List.map_drop, List.map_take, pairUp_append _ _ (by rw [List.length_drop, List.length_map]; omega), pairUp_drop, pairUp_take]
theorem mem_turned {α : Type} (l : List α) (m : Nat) (p : α) : p ∈ l ↔ p ∈ l.drop m ++ l.take m := by
  rw [List.mem_append, or_comm, ← List.mem_append, List.take_append_drop]
theorem turned_len (xs : List ByteArray) (m : Nat) (h : 2 * m ≤ xs.length) : (turned xs m).length = xs.length := by
  unfold turned
  rw [List.length_append, List.length_drop, List.length_take]; omega
theorem few_turned {xs : List ByteArray} (h : Few xs) (m : Nat) (hm : 2 * m ≤ xs.length) : Few (turned xs m) := by
  obtain ⟨h1, h2, h3⟩ := h
  refine ⟨by rw [turned_len xs m hm]; exact h1, by rw [turned_len xs m hm]; exact h2, fun x hx => h3 x ((mem_turned xs (2 * m) x).2 hx)⟩
/-- No old text begins with another one. -/
def ApartK (ys : List ByteArray) : Prop := ∀ (i j : Nat) x y, i ≠ j → ys[i]? = some x → ys[j]? = some y → atB x y 0 = false
theorem apart_of {xs : List ByteArray} (he : xs.length % 2 = 0) (h : ApartK (oldsOf xs)) : apart (prs xs) := by
  intro i j p q hij hp hq hpre
  rw [← prs_up] at hp hq
  rw [List.getElem?_map] at hp hq
  cases hx : (pairUp xs)[i]? with
  | none => rw [hx] at hp; cases hp
  | some a =>
    cases hy : (pairUp xs)[j]? with
    | none => rw [hy] at hq; cases hq
    | some b =>
      rw [hx] at hp
      rw [hy] at hq
      obtain rfl := Option.some.inj hp
      obtain rfl := Option.some.inj hq
      have := h i j a.1 b.1 hij (by rw [oldsOf, List.getElem?_map, hx]; rfl) (by rw [oldsOf, List.getElem?_map, hy]; rfl)
      have h2 := atB_occ a.1 b.1 0 (Nat.zero_le _)
      rw [show ((0 : Nat) : Int) = 0 from rfl, this] at h2
      unfold occAt at h2
      rw [List.drop_zero] at h2
      have := List.isPrefixOf_iff_prefix.2 hpre
      rw [show (tb b).1 = b.1.data.toList from rfl, show (tb a).1 = a.1.data.toList from rfl] at this
      rw [this] at h2
      cases h2
theorem repl_turned {xs : List ByteArray} (he : xs.length % 2 = 0) (h : ApartK (oldsOf xs)) (m : Nat) (s : Bs) : repl (prs (turned xs m)) s true = repl (prs xs) s true := by
  rw [prs_turned xs m he]
  exact (repl_same (firstP_apart (apart_of he h) (fun p => mem_turned _ m p)) s true).symm
end Go.Proofs.Ytnigbgablginnaa

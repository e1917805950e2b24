/- Plain: what a replacer of pairs makes of a text. No program in sight. -/
import Derived.Lib.IndexLaws
import Derived.Lib.RabinKarpLaws
set_option linter.unusedVariables false
namespace Go.Proofs.Ytnigbgablginnaa
open Go.Lib

abbrev Bs := List UInt8
/-- Whether a pair's old text stands in front of a text; an empty one only where it is looked for. -/
def fits (e : Bool) (t : Bs) (p : Bs × Bs) : Bool := (e || !p.1.isEmpty) && p.1.isPrefixOf t
def firstP (ps : List (Bs × Bs)) (t : Bs) (e : Bool) : Option (Bs × Bs) := ps.find? (fits e t)
theorem firstP_fits {ps : List (Bs × Bs)} {t : Bs} {e : Bool} {p : Bs × Bs} (h : firstP ps t e = some p) : fits e t p = true := List.find?_some h
theorem firstP_mem {ps : List (Bs × Bs)} {t : Bs} {e : Bool} {p : Bs × Bs} (h : firstP ps t e = some p) : p ∈ ps := List.mem_of_find?_eq_some h
theorem fits_pre {e : Bool} {t : Bs} {p : Bs × Bs} (h : fits e t p = true) : ∃ r, t = p.1 ++ r := by
  unfold fits at h
  rw [Bool.and_eq_true] at h
  obtain ⟨r, hr⟩ := List.isPrefixOf_iff_prefix.1 h.2
  exact ⟨r, hr.symm⟩
theorem fits_empty {e : Bool} {t : Bs} {p : Bs × Bs} (h : fits e t p = true) (h0 : p.1 = []) : e = true := by
  unfold fits at h
  rw [h0] at h
  simpa using h
theorem fits_app {e : Bool} {p : Bs × Bs} {r : Bs} (h : p.1 ≠ []) : fits e (p.1 ++ r) p = true := by
  unfold fits
  rw [Bool.and_eq_true]
  refine ⟨?_, List.isPrefixOf_iff_prefix.2 ⟨r, rfl⟩⟩
  cases hp : p.1 with
  | nil => exact absurd hp h
  | cons a b => simp

/-- The text that comes of it. -/
def repl (ps : List (Bs × Bs)) (t : Bs) (e : Bool) : Bs :=
  match h : firstP ps t e with
  | some p => p.2 ++ repl ps (t.drop p.1.length) (!p.1.isEmpty)
  | none => match ht : t with
    | [] => []
    | c :: r => c :: repl ps r true
termination_by 2 * t.length + (if e then 1 else 0)
decreasing_by
  · have hf := firstP_fits h
    obtain ⟨r, hr⟩ := fits_pre hf
    cases hp : p.1 with
    | nil =>
      have := fits_empty hf hp
      subst this
      simp
    | cons a b =>
      rw [hr, hp]
      simp
      split <;> omega
  · simp; split <;> omega

theorem repl_hit {ps : List (Bs × Bs)} {t : Bs} {e : Bool} {p : Bs × Bs} (h : firstP ps t e = some p) : repl ps t e = p.2 ++ repl ps (t.drop p.1.length) (!p.1.isEmpty) := by
  rw [repl]
  split
  · rename_i q hq
    rw [h] at hq
    obtain rfl := Option.some.inj hq
    rfl
  · rename_i hq
    rw [h] at hq
    cases hq
theorem repl_end {ps : List (Bs × Bs)} {e : Bool} (h : firstP ps [] e = none) : repl ps [] e = [] := by
  rw [repl]
  split
  · rename_i q hq
    rw [h] at hq
    cases hq
  · rfl
theorem repl_step {ps : List (Bs × Bs)} {c : UInt8} {r : Bs} {e : Bool} (h : firstP ps (c :: r) e = none) : repl ps (c :: r) e = c :: repl ps r true := by
  rw [repl]
  split
  · rename_i q hq
    rw [h] at hq
    cases hq
  · rfl

/-- Lists of texts as pairs. -/
def pairUp {α : Type} : List α → List (α × α)
  | a :: b :: r => (a, b) :: pairUp r
  | _ => []
theorem pairUp_get {α : Type} : ∀ (l : List α) (k : Nat) (a b : α), l[2 * k]? = some a → l[2 * k + 1]? = some b → (pairUp l)[k]? = some (a, b)
  | x :: y :: r, 0, a, b, h1, h2 => by
    simp at h1 h2
    subst h1 h2
    rfl
  | x :: y :: r, k + 1, a, b, h1, h2 => by
    show (pairUp r)[k]? = _
    exact pairUp_get r k a b (by simpa [Nat.mul_add] using h1) (by simpa [Nat.mul_add] using h2)
  | [x], 0, a, b, h1, h2 => by simp at h2
  | [x], k + 1, a, b, h1, h2 => by simp at h2
  | [], k, a, b, h1, h2 => by simp at h1
theorem pairUp_length {α : Type} : ∀ (l : List α), (pairUp l).length = l.length / 2
  | x :: y :: r => by
    show (pairUp r).length + 1 = (r.length + 2) / 2
    rw [pairUp_length r]; omega
  | [x] => by simp [pairUp]
  | [] => by simp [pairUp]
theorem pairUp_append {α : Type} : ∀ (l m : List α), l.length % 2 = 0 → pairUp (l ++ m) = pairUp l ++ pairUp m
  | x :: y :: r, m, h => by
    show (x, y) :: pairUp (r ++ m) = (x, y) :: (pairUp r ++ pairUp m)
    rw [pairUp_append r m (by simp at h; omega)]
  | [x], m, h => by simp at h
  | [], m, h => rfl
theorem pairUp_map {α β : Type} (f : α → β) : ∀ (l : List α), pairUp (l.map f) = (pairUp l).map (fun p => (f p.1, f p.2))
  | x :: y :: r => by
    show (f x, f y) :: pairUp (r.map f) = (f x, f y) :: (pairUp r).map _
    rw [pairUp_map f r]
  | [x] => rfl
  | [] => rfl

/-- The pairs that a list of texts lists. -/
def prs (xs : List ByteArray) : List (Bs × Bs) := pairUp (xs.map (·.data.toList))
theorem prs_get (xs : List ByteArray) (k : Nat) (a b : ByteArray) (h1 : xs[2 * k]? = some a) (h2 : xs[2 * k + 1]? = some b) : (prs xs)[k]? = some (a.data.toList, b.data.toList) :=
  pairUp_get _ k _ _ (by rw [List.getElem?_map, h1]; rfl) (by rw [List.getElem?_map, h2]; rfl)
theorem prs_length (xs : List ByteArray) : (prs xs).length = xs.length / 2 := by rw [prs, pairUp_length, List.length_map]

/-- No pair before k fits. -/
def NoFit (ps : List (Bs × Bs)) (t : Bs) (e : Bool) (k : Nat) : Prop := ∀ j p, j < k → ps[j]? = some p → fits e t p = false
theorem NoFit.zero (ps : List (Bs × Bs)) (t : Bs) (e : Bool) : NoFit ps t e 0 := fun _ _ h => absurd h (Nat.not_lt_zero _)
theorem NoFit.succ {ps : List (Bs × Bs)} {t : Bs} {e : Bool} {k : Nat} {p : Bs × Bs} (h : NoFit ps t e k) (hp : ps[k]? = some p) (hf : fits e t p = false) : NoFit ps t e (k + 1) := by
  intro j q hj hq
  rcases Nat.lt_succ_iff_lt_or_eq.1 hj with h' | rfl
  · exact h j q h' hq
  · rw [hp] at hq
    exact (Option.some.inj hq) ▸ hf
theorem NoFit.hit {ps : List (Bs × Bs)} {t : Bs} {e : Bool} {k : Nat} {p : Bs × Bs} (h : NoFit ps t e k) (hp : ps[k]? = some p) (hf : fits e t p = true) : firstP ps t e = some p := by
  unfold firstP
  rw [List.find?_eq_some_iff_getElem]
  obtain ⟨hk, e1⟩ := List.getElem?_eq_some_iff.1 hp
  refine ⟨hf, k, hk, e1, fun j hj => ?_⟩
  have := h j ps[j] hj (List.getElem?_eq_getElem (by omega))
  simp [this]
theorem NoFit.miss {ps : List (Bs × Bs)} {t : Bs} {e : Bool} {k : Nat} (h : NoFit ps t e k) (hk : ps.length ≤ k) : firstP ps t e = none := by
  unfold firstP
  rw [List.find?_eq_none]
  intro p hp
  obtain ⟨j, hj, e1⟩ := List.getElem_of_mem hp
  have := h j p (by omega) (by rw [List.getElem?_eq_getElem hj, e1])
  simp [this]

/-! ### laws -/
def solid (ps : List (Bs × Bs)) : Prop := ∀ p ∈ ps, p.1 ≠ []
theorem firstP_solid {ps : List (Bs × Bs)} (h : solid ps) (t : Bs) (e : Bool) : firstP ps t e = firstP ps t true := by
  unfold firstP
  have : ∀ (l : List (Bs × Bs)), (∀ p ∈ l, p.1 ≠ []) → l.find? (fits e t) = l.find? (fits true t) := by
    intro l
    induction l with
    | nil => intro _; rfl
    | cons p r ih =>
      intro hl
      have e1 : fits e t p = fits true t p := by
        unfold fits
        have : p.1 ≠ [] := hl p (by simp)
        cases hp : p.1 with
        | nil => exact absurd hp this
        | cons a b => simp
      rw [List.find?_cons, List.find?_cons, e1, ih (fun q hq => hl q (by simp [hq]))]
  exact this ps h
theorem repl_solid {ps : List (Bs × Bs)} (h : solid ps) (t : Bs) (e : Bool) : repl ps t e = repl ps t true := by
  cases hf : firstP ps t e with
  | some p =>
    have hf2 : firstP ps t true = some p := (firstP_solid h t e).symm.trans hf
    rw [repl_hit hf, repl_hit hf2]
  | none =>
    cases t with
    | nil => rw [repl_end hf, repl_end ((firstP_solid h [] e).symm.trans hf)]
    | cons c r => rw [repl_step hf, repl_step ((firstP_solid h _ e).symm.trans hf)]

/-- Pairs that find alike make alike. -/
theorem repl_congr {ps qs : List (Bs × Bs)} (h : ∀ t e, firstP ps t e = firstP qs t e) : ∀ n t e, 2 * t.length + (if e = true then 1 else 0) ≤ n → repl ps t e = repl qs t e
  | n, t, e, hn => by
    cases hf : firstP ps t e with
    | some p =>
      have hf2 : firstP qs t e = some p := (h t e).symm.trans hf
      rw [repl_hit hf, repl_hit hf2]
      have hfit := firstP_fits hf
      obtain ⟨r, hr⟩ := fits_pre hfit
      refine congrArg (p.2 ++ ·) ?_
      cases hp : p.1 with
      | nil =>
        have := fits_empty hfit hp
        subst this
        match n, hn with
        | 0, hn => simp at hn
        | n + 1, hn => exact repl_congr h n _ _ (by simp at hn ⊢; omega)
      | cons a b =>
        rw [hr, hp] at hn ⊢
        match n, hn with
        | 0, hn => simp at hn
        | n + 1, hn =>
          refine repl_congr h n _ _ ?_
          simp only [List.length_append, List.length_cons, List.length_drop] at hn ⊢
          simp only [List.isEmpty_cons, Bool.not_false, if_true]
          split at hn <;> omega
    | none =>
      cases t with
      | nil => rw [repl_end hf, repl_end ((h [] e).symm.trans hf)]
      | cons c r =>
        match n, hn with
        | 0, hn => simp at hn
        | n + 1, hn =>
          rw [repl_step hf, repl_step ((h _ e).symm.trans hf), repl_congr h n r true ?_]
          simp only [List.length_cons, if_true] at hn ⊢
          split at hn <;> omega
theorem repl_same {ps qs : List (Bs × Bs)} (h : ∀ t e, firstP ps t e = firstP qs t e) (t : Bs) (e : Bool) : repl ps t e = repl qs t e := repl_congr h _ t e (Nat.le_refl _)

/-- Where no old text stands, the text stays. -/
theorem repl_nothing {ps : List (Bs × Bs)} : ∀ (t : Bs) (e : Bool), (∀ p ∈ ps, ∀ a b, t = a ++ b → ¬ p.1 <+: b) → repl ps t e = t
  | [], e, h => by
    refine repl_end ?_
    unfold firstP
    rw [List.find?_eq_none]
    intro p hp hf
    obtain ⟨r, hr⟩ := fits_pre hf
    exact h p hp [] [] rfl ⟨r, hr.symm⟩
  | c :: r, e, h => by
    have : firstP ps (c :: r) e = none := by
      unfold firstP
      rw [List.find?_eq_none]
      intro p hp hf
      obtain ⟨q, hq⟩ := fits_pre hf
      exact h p hp [] (c :: r) rfl ⟨q, hq.symm⟩
    rw [repl_step this, repl_nothing r true (fun p hp a b e1 => h p hp (c :: a) b (by rw [e1]; rfl))]

/-- A pair behind one with the same old text changes nothing. -/
theorem firstP_again (ps : List (Bs × Bs)) (p : Bs × Bs) (hp : p ∈ ps) (n : Bs) (t : Bs) (e : Bool) : firstP (ps ++ [(p.1, n)]) t e = firstP ps t e := by
  unfold firstP
  rw [List.find?_append]
  cases hf : ps.find? (fits e t) with
  | some q => rfl
  | none =>
    have := List.find?_eq_none.1 hf p hp
    have e2 : fits e t (p.1, n) = fits e t p := rfl
    simp [e2, this]

/-- The first pair's old text ahead of a text. -/
theorem repl_ahead (p : Bs × Bs) (ps : List (Bs × Bs)) (h : solid (p :: ps)) (s : Bs) : repl (p :: ps) (p.1 ++ s) true = p.2 ++ repl (p :: ps) s true := by
  have hp : p.1 ≠ [] := h p (by simp)
  have hf : firstP (p :: ps) (p.1 ++ s) true = some p := by
    unfold firstP
    rw [List.find?_cons, fits_app hp]
  rw [repl_hit hf, List.drop_left, repl_solid h]

/-- Single bytes are replaced one by one. -/
def bytesOnly (ps : List (Bs × Bs)) : Prop := ∀ p ∈ ps, p.1.length = 1
theorem bytesOnly.solid {ps : List (Bs × Bs)} (h : bytesOnly ps) : solid ps := fun p hp e => by have := h p hp; rw [e] at this; cases this
/-- What a byte becomes. -/
def byteTo (ps : List (Bs × Bs)) (c : UInt8) : Bs := match ps.find? (fun p => p.1 == [c]) with | some p => p.2 | none => [c]
theorem fits_byte {p : Bs × Bs} (h : p.1.length = 1) (c : UInt8) (r : Bs) (e : Bool) : fits e (c :: r) p = (p.1 == [c]) := by
  unfold fits
  match hp : p.1, h with
  | [a], _ => simp [List.isPrefixOf]
theorem find_congr {α : Type} {f g : α → Bool} : ∀ {l : List α}, (∀ a ∈ l, f a = g a) → l.find? f = l.find? g
  | [], _ => rfl
  | a :: r, h => by rw [List.find?_cons, List.find?_cons, h a (by simp), find_congr (fun b hb => h b (by simp [hb]))]
theorem repl_bytes {ps : List (Bs × Bs)} (h : bytesOnly ps) : ∀ (t : Bs) (e : Bool), repl ps t e = t.flatMap (byteTo ps)
  | [], e => by
    refine repl_end ?_
    unfold firstP
    rw [List.find?_eq_none]
    intro p hp hf
    obtain ⟨r, hr⟩ := fits_pre hf
    have := h p hp
    have h2 : p.1 = [] := by
      cases hq : p.1 with
      | nil => rfl
      | cons a b => rw [hq] at hr; cases hr
    rw [h2] at this; cases this
  | c :: r, e => by
    have hfc : firstP ps (c :: r) e = ps.find? (fun p => p.1 == [c]) := find_congr (fun p hp => fits_byte (h p hp) c r e)
    rw [List.flatMap_cons]
    cases hf : firstP ps (c :: r) e with
    | some p =>
      rw [repl_hit hf, h p (firstP_mem hf), List.drop_succ_cons, List.drop_zero, repl_bytes h r]
      rw [hfc] at hf
      unfold byteTo
      rw [hf]
    | none =>
      rw [repl_step hf, repl_bytes h r]
      rw [hfc] at hf
      unfold byteTo
      rw [hf]; rfl
theorem repl_join {ps : List (Bs × Bs)} (h : bytesOnly ps) (s t : Bs) : repl ps (s ++ t) true = repl ps s true ++ repl ps t true := by
  rw [repl_bytes h, repl_bytes h, repl_bytes h, List.flatMap_append]

/-- One pair: up to the first place nothing changes. -/
theorem repl_one_miss (p : Bs × Bs) (h : p.1 ≠ []) (t : Bs) (hn : ∀ a b, t = a ++ b → ¬ p.1 <+: b) : repl [p] t true = t :=
  repl_nothing t true (fun q hq => by rw [List.mem_singleton.1 hq]; exact hn)
theorem repl_one_hit (p : Bs × Bs) (h : p.1 ≠ []) : ∀ (a b : Bs), (∀ c d, a = c ++ d → d ≠ [] → ¬ p.1 <+: d ++ (p.1 ++ b)) → repl [p] (a ++ (p.1 ++ b)) true = a ++ p.2 ++ repl [p] b true
  | [], b, _ => by
    have := repl_ahead p [] (fun q hq => by rw [List.mem_singleton.1 hq]; exact h) b
    simpa using this
  | c :: a, b, hn => by
    have hf : firstP [p] (c :: (a ++ (p.1 ++ b))) true = none := by
      unfold firstP
      rw [List.find?_eq_none]
      intro q hq hf
      rw [List.mem_singleton.1 hq] at hf
      obtain ⟨r, hr⟩ := fits_pre hf
      exact hn [] (c :: a) rfl (by simp) ⟨r, hr.symm⟩
    show repl [p] (c :: (a ++ (p.1 ++ b))) true = _
    rw [repl_step hf, repl_one_hit p h a b (fun x y e1 hy => hn (c :: x) y (by rw [e1]; rfl) hy)]
    rfl

/-- Olds of which none begins with another one: the order does not matter. -/
def apart (ps : List (Bs × Bs)) : Prop := ∀ (i j : Nat) p q, i ≠ j → ps[i]? = some p → ps[j]? = some q → ¬ q.1 <+: p.1
theorem firstP_apart {ps qs : List (Bs × Bs)} (ha : apart ps) (hm : ∀ p, p ∈ ps ↔ p ∈ qs) (t : Bs) (e : Bool) : firstP ps t e = firstP qs t e := by
  have uniq : ∀ p ∈ ps, ∀ q ∈ ps, fits e t p = true → fits e t q = true → p = q := by
    intro p hp q hq fp fq
    obtain ⟨i, hi, e1⟩ := List.getElem_of_mem hp
    obtain ⟨j, hj, e2⟩ := List.getElem_of_mem hq
    by_cases hij : i = j
    · subst hij; rw [← e1, ← e2]
    · exfalso
      obtain ⟨a, h1⟩ := fits_pre fp
      obtain ⟨b, h2⟩ := fits_pre fq
      have gi : ps[i]? = some p := by rw [List.getElem?_eq_getElem hi, e1]
      have gj : ps[j]? = some q := by rw [List.getElem?_eq_getElem hj, e2]
      have pp : p.1 <+: t := ⟨a, h1.symm⟩
      have pq : q.1 <+: t := ⟨b, h2.symm⟩
      rcases Nat.le_total p.1.length q.1.length with hl | hl
      · exact ha j i q p (fun e => hij e.symm) gj gi (List.prefix_of_prefix_length_le pp pq hl)
      · exact ha i j p q hij gi gj (List.prefix_of_prefix_length_le pq pp hl)
  cases hf : firstP ps t e with
  | some p =>
    have hp := firstP_mem hf
    cases hg : firstP qs t e with
    | some q =>
      have hq := (hm q).2 (firstP_mem hg)
      rw [uniq p hp q hq (firstP_fits hf) (firstP_fits hg)]
    | none =>
      have := List.find?_eq_none.1 hg p ((hm p).1 hp)
      exact absurd (firstP_fits hf) this
  | none =>
    cases hg : firstP qs t e with
    | some q =>
      have := List.find?_eq_none.1 hf q ((hm q).2 (firstP_mem hg))
      exact absurd (firstP_fits hg) this
    | none => rfl
end Go.Proofs.Ytnigbgablginnaa

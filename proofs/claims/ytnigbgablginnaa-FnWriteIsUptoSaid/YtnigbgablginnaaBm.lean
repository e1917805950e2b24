/- The plain law of the finder of Boyer and Moore: its tables leave no place out. No program in sight. -/
import Derived.Lib.IndexLaws
import Derived.Lib.RabinKarpLaws
namespace Go.Proofs.Ytnigbgablginnaa
open Go.Lib

/-- Byte i of a text (0 beyond its end). -/
def bt (s : ByteArray) (i : Nat) : UInt8 := s.data.toList.getD i 0
theorem bt_at (s : ByteArray) (i : Nat) (h : i < s.size) : bt s i = s[i] := by
  unfold bt
  simp only [List.getD]
  rw [byte_at s i h]; rfl

theorem occ_iff (s sub : ByteArray) (i : Nat) (h0 : 0 < sub.size) : occAt s.data.toList sub.data.toList i = true ↔ i + sub.size ≤ s.size ∧ ∀ k, k < sub.size → bt s (i + k) = bt sub k := by
  constructor
  · intro h
    have hr : i + sub.size ≤ s.size := by
      rcases occAt_room h with h' | h'
      · simpa using h'
      · have : sub.size = 0 := by have := congrArg List.length h'; simpa using this
        omega
    refine ⟨hr, fun k hk => ?_⟩
    unfold occAt at h
    obtain ⟨r, hr2⟩ := List.isPrefixOf_iff_prefix.1 h
    have e1 : (s.data.toList.drop i)[k]? = sub.data.toList[k]? := by
      rw [← hr2, List.getElem?_append_left (by simpa using hk)]
    rw [List.getElem?_drop, byte_at s (i + k) (by omega), byte_at sub k hk] at e1
    rw [bt_at s _ (by omega), bt_at sub k hk]
    exact Option.some.inj e1
  · rintro ⟨hr, hk⟩
    unfold occAt
    rw [List.isPrefixOf_iff_prefix]
    refine ⟨(s.data.toList.drop i).drop sub.size, ?_⟩
    apply List.ext_getElem?
    intro k
    by_cases hk' : k < sub.size
    · rw [List.getElem?_append_left (by simpa using hk'), List.getElem?_drop, byte_at sub k hk', byte_at s (i + k) (by omega)]
      have := hk k hk'
      rw [bt_at s _ (by omega), bt_at sub k hk'] at this
      rw [this]
    · rw [List.getElem?_append_right (by simp; omega), List.getElem?_drop, List.getElem?_drop, List.getElem?_drop]
      congr 1
      simp
      omega

/-- A shift d fits behind a mismatch at j. -/
def Gd (p : ByteArray) (j d : Nat) : Prop := (∀ k, j < k → k < p.size → d ≤ k → bt p (k - d) = bt p k) ∧ (d ≤ j → bt p (j - d) ≠ bt p j)

/-- The table of good suffixes, the shifts down to last - I having been looked at. -/
def GoodOk (p : ByteArray) (T : Nat → Nat) (I : Nat) : Prop :=
  ∀ j, j < p.size → p.size - 1 - j + 1 ≤ T j ∧ ∀ d, 1 ≤ d → Gd p j d → (j < d ∨ p.size - 1 < d + I) → T j ≤ p.size - 1 - j + d

def isPre (p : ByteArray) (q : Nat) : Prop := ∀ k, q ≤ k → k < p.size → bt p (k - q) = bt p k
def PreOk (p : ByteArray) (i lp : Nat) : Prop := i + 1 ≤ lp ∧ lp ≤ p.size ∧ ∀ q, i + 1 ≤ q → q < lp → ¬ isPre p q
theorem PreOk.yes (p : ByteArray) (i : Nat) (hi : i < p.size) : PreOk p i (i + 1) := ⟨Nat.le_refl _, hi, fun q h1 h2 => by omega⟩
theorem PreOk.no {p : ByteArray} {i lp : Nat} (h : PreOk p (i + 1) lp) (hn : ¬ isPre p (i + 1)) : PreOk p i lp :=
  ⟨by have := h.1; omega, h.2.1, fun q h1 h2 => by
    by_cases e : q = i + 1
    · subst e; exact hn
    · exact h.2.2 q (by omega) h2⟩
theorem isPre_end (p : ByteArray) : isPre p p.size := fun k h1 h2 => by omega

/-- What the first pass lays at j. -/
theorem first_pass {p : ByteArray} {j lp : Nat} (h : PreOk p j lp) (d : Nat) (hg : Gd p j d) (hd : j < d) : lp ≤ d := by
  rcases Nat.lt_or_ge d lp with h' | h'
  · exact absurd (fun k h1 h2 => hg.1 k (by omega) h2 h1) (h.2.2 d (by omega) h')
  · exact h'

/-- The common suffix of the pattern and its piece that ends at i. -/
def LcsOk (p : ByteArray) (i L : Nat) : Prop := L ≤ i ∧ (∀ t, t < L → bt p (i - t) = bt p (p.size - 1 - t)) ∧ (L = i ∨ bt p (i - L) ≠ bt p (p.size - 1 - L))

theorem lcs_of_good {p : ByteArray} {i L j d : Nat} (hL : LcsOk p i L) (hi : i < p.size - 1) (hd : d = p.size - 1 - i) (hj : d ≤ j) (hjp : j < p.size) (hg : Gd p j d) : L = p.size - 1 - j ∧ bt p (i - L) ≠ bt p (p.size - 1 - L) := by
  have hge : p.size - 1 - j ≤ L := by
    rcases Nat.lt_or_ge L (p.size - 1 - j) with h | h
    · exfalso
      rcases hL.2.2 with h' | h'
      · omega
      · apply h'
        have := hg.1 (p.size - 1 - L) (by omega) (by omega) (by omega)
        rw [← this]; congr 1; omega
    · exact h
  have hle : L ≤ p.size - 1 - j := by
    rcases Nat.lt_or_ge (p.size - 1 - j) L with h | h
    · exfalso
      have := hL.2.1 (p.size - 1 - j) h
      apply hg.2 hj
      rw [show j - d = i - (p.size - 1 - j) by omega, this]; congr 1; omega
    · exact h
  have e : L = p.size - 1 - j := by omega
  refine ⟨e, ?_⟩
  have := hg.2 hj
  rw [show i - L = j - d by omega, show p.size - 1 - L = j by omega]
  exact this

/-- The second pass, one step: the table is set at last - L .. -/
theorem good_set {p : ByteArray} {T : Nat → Nat} {i L : Nat} (h : GoodOk p T i) (hL : LcsOk p i L) (hi : i < p.size - 1) :
    GoodOk p (fun j => if j = p.size - 1 - L then L + (p.size - 1) - i else T j) (i + 1) := by
  intro j hj
  have hLi := hL.1
  dsimp only
  by_cases e : j = p.size - 1 - L
  · rw [if_pos e]
    refine ⟨by omega, fun d h1 hg hor => ?_⟩
    rcases hor with h' | h' <;> omega
  · rw [if_neg e]
    refine ⟨(h j hj).1, fun d h1 hg hor => ?_⟩
    by_cases hjd : j < d
    · exact (h j hj).2 d h1 hg (.inl hjd)
    · by_cases hd : d = p.size - 1 - i
      · have := lcs_of_good hL hi hd (by omega) hj hg
        omega
      · exact (h j hj).2 d h1 hg (.inr (by omega))
/-- .. or left as it is. -/
theorem good_keep {p : ByteArray} {T : Nat → Nat} {i L : Nat} (h : GoodOk p T i) (hL : LcsOk p i L) (hi : i < p.size - 1) (he : bt p (i - L) = bt p (p.size - 1 - L)) : GoodOk p T (i + 1) := by
  intro j hj
  refine ⟨(h j hj).1, fun d h1 hg hor => ?_⟩
  by_cases hjd : j < d
  · exact (h j hj).2 d h1 hg (.inl hjd)
  · by_cases hd : d = p.size - 1 - i
    · exact absurd he (lcs_of_good hL hi hd (by omega) hj hg).2
    · exact (h j hj).2 d h1 hg (.inr (by omega))

/-- The table of bytes: as far as the last place ahead of the end, or all of the pattern. -/
def bcTo (p : ByteArray) (c : Nat) : Nat → Nat
  | 0 => p.size
  | i + 1 => if (bt p i).toNat = c then p.size - 1 - i else bcTo p c i
def bc (p : ByteArray) (c : Nat) : Nat := bcTo p c (p.size - 1)
theorem bcTo_le (p : ByteArray) (c : Nat) : ∀ n, bcTo p c n ≤ p.size
  | 0 => Nat.le_refl _
  | n + 1 => by unfold bcTo; split
                · omega
                · exact bcTo_le p c n
theorem bcTo_at (p : ByteArray) (c q : Nat) (h : (bt p q).toNat = c) : ∀ n, q < n → bcTo p c n ≤ p.size - 1 - q
  | 0, hq => by omega
  | n + 1, hq => by
    unfold bcTo
    split
    · omega
    · rename_i hn
      have : q ≠ n := fun e => hn (by rw [← e]; exact h)
      exact bcTo_at p c q h n (by omega)

/-- A step of the search: behind a mismatch at j nothing is left out. -/
theorem bm_skip {s p : ByteArray} {P j skip : Nat} {T : Nat → Nat} (hT : GoodOk p T (p.size - 1)) (hj : j < p.size) (hp : P + p.size ≤ s.size) (hno : NoOcc s.data.toList p.data.toList P)
    (hne : bt s (P + j) ≠ bt p j) (hsuf : ∀ k, j < k → k < p.size → bt s (P + k) = bt p k) (hsk : skip = max (bc p (bt s (P + j)).toNat) (T j)) :
    NoOcc s.data.toList p.data.toList (P + j + skip - (p.size - 1)) ∧ p.size - 1 < j + skip := by
  have h1 := (hT j hj).1
  have hp0 : 0 < p.size := by omega
  refine ⟨fun q hq => ?_, by omega⟩
  by_cases hqP : q < P
  · exact hno q hqP
  · cases ho : occAt s.data.toList p.data.toList q with
    | false => rfl
    | true =>
      exfalso
      obtain ⟨hr, hk⟩ := (occ_iff s p q hp0).1 ho
      by_cases e : q = P
      · subst e; exact hne (hk j hj)
      · obtain ⟨d, rfl⟩ : ∃ d, q = P + d := ⟨q - P, by omega⟩
        have hd : 1 ≤ d := by omega
        have hg : Gd p j d := by
          refine ⟨fun k h1 h2 h3 => ?_, fun hdj => ?_⟩
          · rw [← hsuf k h1 h2, ← hk (k - d) (by omega)]; congr 1; omega
          · rw [← hk (j - d) (by omega)]
            rw [show P + d + (j - d) = P + j by omega]; exact hne
        have h2 := (hT j hj).2 d hd hg (by omega)
        have h3 : bc p (bt s (P + j)).toNat ≤ p.size - 1 - j + d := by
          by_cases hdj : d ≤ j
          · have e2 : bt s (P + j) = bt p (j - d) := by rw [← hk (j - d) (by omega)]; congr 1; omega
            have := bcTo_at p (bt s (P + j)).toNat (j - d) (by rw [e2]) (p.size - 1) (by omega)
            unfold bc; omega
          · have := bcTo_le p (bt s (P + j)).toNat (p.size - 1)
            unfold bc; omega
        omega
end Go.Proofs.Ytnigbgablginnaa

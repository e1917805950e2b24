/- LastL TrimLB (merged by merge.py). -/
import Derived.Test.YtpaieadnicmplaaDoorAnyL
import Derived.Test.YtpaieadnicmplaaDoorBSpc
import Derived.Lib.SpaceU
import Derived.Shelf.Unicode.DecodeLast
import Derived.Lib.TrimUEq
/- Plain laws: from behind, a text is decoded into the same code points as from the front. -/
set_option linter.unusedVariables false
namespace Go.Proofs.YtpaieadnicmplaaDoor
open Go.Lib

/-- The last of some places whose code point is so. -/
def lP (s : ByteArray) (p : Nat → Bool) (l : List Nat) : Int := l.foldl (fun x a => if p (Utf8.decode s a).1 then (a : Int) else x) (-1)
theorem lP_snoc (s : ByteArray) (p : Nat → Bool) (l : List Nat) (a : Nat) : lP s p (l ++ [a]) = if p (Utf8.decode s a).1 then (a : Int) else lP s p l := by
  unfold lP; rw [List.foldl_append]; rfl
theorem lP_nil (s : ByteArray) (p : Nat → Bool) : lP s p [] = -1 := rfl

/-- a is a place at which the decoding from the front arrives, behind those of pre. -/
inductive Bd (s : ByteArray) : Nat → List Nat → Prop
  | zero : Bd s 0 []
  | step {a : Nat} {pre : List Nat} (h : Bd s a pre) (ha : a < s.size) : Bd s (a + (Utf8.decode s a).2) (pre ++ [a])

theorem Bd.zero_nil {s : ByteArray} {pre : List Nat} : ∀ {i}, Bd s i pre → i = 0 → pre = []
  | _, .zero, _ => rfl
  | _, .step (a := a) h ha, e => by have := decode_width_pos s a ha; omega
theorem Bd.inv {s : ByteArray} {i : Nat} {pre : List Nat} (h : Bd s i pre) (hi : 0 < i) : ∃ a pre', Bd s a pre' ∧ a < s.size ∧ i = a + (Utf8.decode s a).2 ∧ pre = pre' ++ [a] := by
  cases h with
  | zero => omega
  | step h ha => exact ⟨_, _, h, ha, rfl, rfl⟩
theorem Bd.whole (s : ByteArray) : ∀ n a pre, s.size - a ≤ n → a ≤ s.size → Bd s a pre → Bd s s.size (pre ++ starts s a)
  | n, a, pre, hn, ha, h => by
    by_cases hlt : a < s.size
    · have hw := decode_width_pos s a hlt
      have he := decode_end s a hlt
      rw [starts_cons s a hlt]
      match n, hn with
      | 0, hn => omega
      | n + 1, hn =>
        have := Bd.whole s n (a + (Utf8.decode s a).2) (pre ++ [a]) (by omega) he (.step h hlt)
        simpa using this
    · obtain rfl : a = s.size := by omega
      rw [starts_end s _ (Nat.le_refl _), List.append_nil]; exact h
theorem Bd.all (s : ByteArray) : Bd s s.size (starts s 0) := by
  have := Bd.whole s s.size 0 [] (by omega) (Nat.zero_le _) .zero
  simpa using this

/-- A byte that begins an encoding is never left out. -/
theorem Bd.lead {s : ByteArray} {st : Nat} (hl : ¬ ((s.get! st).toNat / 64 = 2)) : ∀ {a pre}, Bd s a pre → st < a → st + (Utf8.decode s st).2 ≤ a
  | _, _, .zero, h => by omega
  | _, _, .step (a := a) hb ha, h => by
    rcases Nat.lt_trichotomy st a with h1 | h1 | h1
    · have := Bd.lead hl hb h1; omega
    · subst h1; exact Nat.le_refl _
    · have := decode_in s a st h1 h
      omega

theorem width_cases (M b0 b1 b2 b3 : Nat) : (decodeN M b0 b1 b2 b3).2 = 1 ∨
    ((decodeN M b0 b1 b2 b3).2 = 2 ∧ b0 / 32 = 6 ∧ (1 < M ∧ b1 / 64 = 2)) ∨
    ((decodeN M b0 b1 b2 b3).2 = 3 ∧ b0 / 16 = 14 ∧ (1 < M ∧ b1 / 64 = 2) ∧ (2 < M ∧ b2 / 64 = 2)) ∨
    ((decodeN M b0 b1 b2 b3).2 = 4 ∧ b0 / 8 = 30 ∧ (1 < M ∧ b1 / 64 = 2) ∧ (2 < M ∧ b2 / 64 = 2) ∧ (3 < M ∧ b3 / 64 = 2)) := by
  unfold decodeN
  repeat' split
  all_goals simp_all
theorem width1_err (M b0 b1 b2 b3 : Nat) (h : (decodeN M b0 b1 b2 b3).2 = 1) (h0 : ¬ b0 < 128) : decodeN M b0 b1 b2 b3 = (65533, 1) := by
  unfold decodeN at h ⊢
  rw [if_neg h0] at h ⊢
  repeat' split
  all_goals first | rfl | (exfalso; simp_all)
theorem decodeN_ge1 (M b0 b1 b2 b3 : Nat) : 1 ≤ (decodeN M b0 b1 b2 b3).2 := by
  rcases width_cases M b0 b1 b2 b3 with h | ⟨h, _⟩ | ⟨h, _⟩ | ⟨h, _⟩ <;> omega
theorem decN_two (M b0 b1 b2 b3 : Nat) (h0 : b0 / 32 = 6) (h1 : 1 < M ∧ b1 / 64 = 2) : decodeN M b0 b1 b2 b3 = if b0 % 32 * 64 + b1 % 64 ≥ 128 then (b0 % 32 * 64 + b1 % 64, 2) else (65533, 1) := by
  unfold decodeN
  rw [if_neg (by omega), if_pos ⟨h0, h1⟩]
theorem decN_three (M b0 b1 b2 b3 : Nat) (h0 : b0 / 16 = 14) (h1 : 1 < M ∧ b1 / 64 = 2) (h2 : 2 < M ∧ b2 / 64 = 2) : decodeN M b0 b1 b2 b3 = if b0 % 16 * 4096 + b1 % 64 * 64 + b2 % 64 ≥ 2048 ∧ (b0 % 16 * 4096 + b1 % 64 * 64 + b2 % 64 < 55296 ∨ (57344 ≤ b0 % 16 * 4096 + b1 % 64 * 64 + b2 % 64 ∧ b0 % 16 * 4096 + b1 % 64 * 64 + b2 % 64 ≤ 1114111)) then (b0 % 16 * 4096 + b1 % 64 * 64 + b2 % 64, 3) else (65533, 1) := by
  unfold decodeN
  rw [if_neg (by omega), if_neg (by omega), if_pos ⟨h0, h1, h2⟩]
theorem decN_four (M b0 b1 b2 b3 : Nat) (h0 : b0 / 8 = 30) (h1 : 1 < M ∧ b1 / 64 = 2) (h2 : 2 < M ∧ b2 / 64 = 2) (h3 : 3 < M ∧ b3 / 64 = 2) : decodeN M b0 b1 b2 b3 = if b0 % 8 * 262144 + b1 % 64 * 4096 + b2 % 64 * 64 + b3 % 64 ≥ 65536 ∧ (b0 % 8 * 262144 + b1 % 64 * 4096 + b2 % 64 * 64 + b3 % 64 < 55296 ∨ (57344 ≤ b0 % 8 * 262144 + b1 % 64 * 4096 + b2 % 64 * 64 + b3 % 64 ∧ b0 % 8 * 262144 + b1 % 64 * 4096 + b2 % 64 * 64 + b3 % 64 ≤ 1114111)) then (b0 % 8 * 262144 + b1 % 64 * 4096 + b2 % 64 * 64 + b3 % 64, 4) else (65533, 1) := by
  unfold decodeN
  rw [if_neg (by omega), if_neg (by omega), if_neg (by omega), if_pos ⟨h0, h1, h2, h3⟩]

/-- With fewer bytes behind it, what is decoded within them is the same. -/
theorem decN_less (M m b0 b1 b2 b3 c1 c2 c3 : Nat) (h1 : 1 < m → c1 = b1) (h2 : 2 < m → c2 = b2) (h3 : 3 < m → c3 = b3) (hw : (decodeN M b0 b1 b2 b3).2 ≤ m) (hge : 2 ≤ (decodeN M b0 b1 b2 b3).2) : decodeN m b0 c1 c2 c3 = decodeN M b0 b1 b2 b3 := by
  rcases width_cases M b0 b1 b2 b3 with h | ⟨h, e0, e1⟩ | ⟨h, e0, e1, e2⟩ | ⟨h, e0, e1, e2, e3⟩
  · omega
  · have x1 := h1 (by omega)
    subst x1
    rw [decN_two M b0 c1 b2 b3 e0 e1, decN_two m b0 c1 c2 c3 e0 (by omega)]
  · have x1 := h1 (by omega)
    have x2 := h2 (by omega)
    subst x1 x2
    rw [decN_three M b0 c1 c2 b3 e0 e1 e2, decN_three m b0 c1 c2 c3 e0 (by omega) (by omega)]
  · have x1 := h1 (by omega)
    have x2 := h2 (by omega)
    have x3 := h3 (by omega)
    subst x1 x2 x3
    rw [decN_four M b0 c1 c2 c3 e0 e1 e2 e3, decN_four m b0 c1 c2 c3 e0 (by omega) (by omega) (by omega)]
/-- With more bytes behind it, what is decoded to several bytes is the same. -/
theorem decN_more (M m b0 b1 b2 b3 c1 c2 c3 : Nat) (h1 : 1 < m → c1 = b1) (h2 : 2 < m → c2 = b2) (h3 : 3 < m → c3 = b3) (hm : m ≤ M) (hge : 2 ≤ (decodeN m b0 c1 c2 c3).2) : decodeN M b0 b1 b2 b3 = decodeN m b0 c1 c2 c3 := by
  rcases width_cases m b0 c1 c2 c3 with h | ⟨h, e0, e1⟩ | ⟨h, e0, e1, e2⟩ | ⟨h, e0, e1, e2, e3⟩
  · omega
  · have x1 := h1 (by omega)
    subst x1
    rw [decN_two M b0 c1 b2 b3 e0 (by omega), decN_two m b0 c1 c2 c3 e0 e1]
  · have x1 := h1 (by omega)
    have x2 := h2 (by omega)
    subst x1 x2
    rw [decN_three M b0 c1 c2 b3 e0 (by omega) (by omega), decN_three m b0 c1 c2 c3 e0 e1 e2]
  · have x1 := h1 (by omega)
    have x2 := h2 (by omega)
    have x3 := h3 (by omega)
    subst x1 x2 x3
    rw [decN_four M b0 c1 c2 c3 e0 (by omega) (by omega) (by omega), decN_four m b0 c1 c2 c3 e0 e1 e2 e3]

/-- The bytes from st to i. -/
theorem piece_get (s : ByteArray) (st i : Nat) (hi : i ≤ s.size) (j : Nat) (hj : st + j < i) : (⟨((s.data.toList.take i).drop st).toArray⟩ : ByteArray).get! j = s.get! (st + j) := by
  have hl : s.data.toList.length = s.size := by simp
  rw [← getD_get!, ← getD_get!]
  show (((s.data.toList.take i).drop st).toArray.toList).getD j 0 = _
  simp only [List.getD, List.getElem?_drop]
  rw [List.getElem?_take_of_lt hj]
theorem piece_size (s : ByteArray) (st i : Nat) (hi : i ≤ s.size) : (⟨((s.data.toList.take i).drop st).toArray⟩ : ByteArray).size = i - st := by
  have hl : s.data.toList.length = s.size := by simp
  show (((s.data.toList.take i).drop st).toArray).size = _
  simp
  omega
theorem take_getD (s : ByteArray) (i j : Nat) (hj : j < i) : (s.data.toList.take i).getD j 0 = s.get! j := by
  rw [← getD_get!]
  simp only [List.getD]
  rw [List.getElem?_take_of_lt hj]

theorem decodeL_piece (s : ByteArray) (st i : Nat) (hst : st < i) (hi : i ≤ s.size) : decodeL ((s.data.toList.take i).drop st) = decodeN (i - st) (s.get! st).toNat ((⟨((s.data.toList.take i).drop st).toArray⟩ : ByteArray).get! 1).toNat ((⟨((s.data.toList.take i).drop st).toArray⟩ : ByteArray).get! 2).toNat ((⟨((s.data.toList.take i).drop st).toArray⟩ : ByteArray).get! 3).toNat := by
  unfold decodeL
  rw [decode_at, piece_size s st i hi, piece_get s st i hi 0 (by omega)]
  rfl

/-- Decoded from behind, at a place at which the decoding from the front arrives, a text gives the code point that ends there. -/
theorem decLast {s : ByteArray} {a : Nat} {pre : List Nat} (hb : Bd s a pre) (ha : a < s.size) : decodeLastL (s.data.toList.take (a + (Utf8.decode s a).2)) = Utf8.decode s a := by
  have hw1 := decode_width_pos s a ha
  have he := decode_end s a ha
  have hin := fun k => decode_in s a k
  have hat := decode_at s a
  obtain ⟨D, hD⟩ : ∃ D, D = Utf8.decode s a := ⟨_, rfl⟩
  rw [← hD] at hw1 he hin hat ⊢
  obtain ⟨i, hi⟩ : ∃ i, i = a + D.2 := ⟨_, rfl⟩
  rw [← hi] at he hin ⊢
  have hl : s.data.toList.length = s.size := by simp
  have hll : (s.data.toList.take i).length = i := by simp; omega
  have hne : s.data.toList.take i ≠ [] := fun h => by rw [h] at hll; simp at hll; omega
  have hlast := take_getD s i (i - 1) (by omega)
  unfold decodeLastL
  rw [if_neg hne, hll, hlast]
  have b0 : (s.get! a).toNat < 256 := (s.get! a).toNat_lt
  have hst := lastStart_lt _ hne
  rw [hll] at hst
  by_cases hw : D.2 = 1
  · have hia : i - 1 = a := by omega
    rw [hia]
    by_cases hasc : (s.get! a).toNat < 128
    · rw [if_pos hasc, hat]
      unfold decodeN
      rw [if_pos hasc]
    · rw [if_neg hasc]
      have hD1 : D = (65533, 1) := by
        rw [hat] at hw ⊢
        exact width1_err _ _ _ _ _ hw hasc
      simp only
      obtain ⟨st, hstd⟩ : ∃ st, st = lastStart (s.data.toList.take i) := ⟨_, rfl⟩
      rw [← hstd] at hst ⊢
      by_cases hc : st + (decodeL ((s.data.toList.take i).drop st)).2 = i
      · rw [if_pos hc, hD1]
        have hpc := decodeL_piece s st i hst he
        rw [hpc] at hc ⊢
        rcases Nat.lt_or_ge (decodeN (i - st) (s.get! st).toNat ((⟨((s.data.toList.take i).drop st).toArray⟩ : ByteArray).get! 1).toNat ((⟨((s.data.toList.take i).drop st).toArray⟩ : ByteArray).get! 2).toNat ((⟨((s.data.toList.take i).drop st).toArray⟩ : ByteArray).get! 3).toNat).2 2 with h2 | h2
        · have hge := decodeN_ge1 (i - st) (s.get! st).toNat ((⟨((s.data.toList.take i).drop st).toArray⟩ : ByteArray).get! 1).toNat ((⟨((s.data.toList.take i).drop st).toArray⟩ : ByteArray).get! 2).toNat ((⟨((s.data.toList.take i).drop st).toArray⟩ : ByteArray).get! 3).toNat
          obtain rfl : st = a := by omega
          unfold decodeN
          rw [if_neg hasc, if_neg (by omega), if_neg (by omega), if_neg (by omega)]
        · exfalso
          have hg1 := fun h => congrArg UInt8.toNat (piece_get s st i he 1 h)
          have hg2 := fun h => congrArg UInt8.toNat (piece_get s st i he 2 h)
          have hg3 := fun h => congrArg UInt8.toNat (piece_get s st i he 3 h)
          have hmore := decN_more (s.size - st) (i - st) (s.get! st).toNat (s.get! (st + 1)).toNat (s.get! (st + 2)).toNat (s.get! (st + 3)).toNat _ _ _ (fun h => hg1 (by omega)) (fun h => hg2 (by omega)) (fun h => hg3 (by omega)) (by omega) h2
          have hlead : ¬ ((s.get! st).toNat / 64 = 2) := by
            rcases width_cases (i - st) (s.get! st).toNat ((⟨((s.data.toList.take i).drop st).toArray⟩ : ByteArray).get! 1).toNat ((⟨((s.data.toList.take i).drop st).toArray⟩ : ByteArray).get! 2).toNat ((⟨((s.data.toList.take i).drop st).toArray⟩ : ByteArray).get! 3).toNat with h | ⟨_, h, _⟩ | ⟨_, h, _⟩ | ⟨_, h, _⟩ <;> omega
          have hb2 := Bd.lead hlead hb (by omega)
          rw [decode_at, hmore] at hb2
          omega
      · rw [if_neg hc, hD1]; rfl
  · have hnasc : ¬ (s.get! (i - 1)).toNat < 128 := by have := hin (i - 1) (by omega) (by omega); omega
    rw [if_neg hnasc]
    have hwc := width_cases (s.size - a) (s.get! a).toNat (s.get! (a + 1)).toNat (s.get! (a + 2)).toNat (s.get! (a + 3)).toNat
    rw [← hat] at hwc
    have hls : lastStart (s.data.toList.take i) = a := by
      have hr : ∀ j, j < i → runeStartB ((s.data.toList.take i).getD j 0) = ((s.get! j).toNat / 64 != 2) := fun j hj => by rw [take_getD s i j hj]; rfl
      rcases hwc with h | ⟨h, e0, e1⟩ | ⟨h, e0, e1, e2⟩ | ⟨h, e0, e1, e2, e3⟩
      · omega
      · refine lastStart_at2 _ a (by omega) ?_
        rw [hr a (by omega)]; simp; omega
      · refine lastStart_at3 _ a (by omega) ?_ ?_
        · rw [hr (a + 1) (by omega)]; simp; omega
        · rw [hr a (by omega)]; simp; omega
      · refine lastStart_at4 _ a (by omega) ?_ ?_ ?_
        · rw [hr (a + 2) (by omega)]; simp; omega
        · rw [hr (a + 1) (by omega)]; simp; omega
        · rw [hr a (by omega)]; simp; omega
    simp only
    rw [hls]
    have hg1 := fun h => congrArg UInt8.toNat (piece_get s a i he 1 h)
    have hg2 := fun h => congrArg UInt8.toNat (piece_get s a i he 2 h)
    have hg3 := fun h => congrArg UInt8.toNat (piece_get s a i he 3 h)
    have hless := decN_less (s.size - a) (i - a) (s.get! a).toNat (s.get! (a + 1)).toNat (s.get! (a + 2)).toNat (s.get! (a + 3)).toNat _ _ _ (fun h => hg1 (by omega)) (fun h => hg2 (by omega)) (fun h => hg3 (by omega)) (by rw [← hat]; omega) (by rw [← hat]; omega)
    have hfin : decodeL ((s.data.toList.take i).drop a) = D := by rw [decodeL_piece s a i (by omega) he, hless, ← hat]
    rw [hfin, if_pos hi.symm]

def lF (s : ByteArray) (p : Nat → Bool) (x : Int) (l : List Nat) : Int := l.foldl (fun x a => if p (Utf8.decode s a).1 then (a : Int) else x) x
theorem lF_cons (s : ByteArray) (p : Nat → Bool) (x : Int) (a : Nat) (l : List Nat) : lF s p x (a :: l) = lF s p (if p (Utf8.decode s a).1 then (a : Int) else x) l := rfl
theorem lF_none (s : ByteArray) (p : Nat → Bool) (x : Int) : ∀ n a, s.size - a ≤ n → (∀ j, a ≤ j → j < s.size → p (Utf8.decode s j).1 = false) → lF s p x (starts s a) = x
  | n, a, hn, hno => by
    by_cases ha : a < s.size
    · have hw := decode_width_pos s a ha
      rw [starts_cons s a ha, lF_cons, hno a (Nat.le_refl _) ha, if_neg (by decide)]
      match n, hn with
      | 0, hn => omega
      | n + 1, hn => exact lF_none s p x n _ (by omega) (fun j h1 h2 => hno j (by omega) h2)
    · rw [starts_end s a (by omega)]; rfl
theorem lF_hit (s : ByteArray) (p : Nat → Bool) (Q : Nat → Prop) (hA : ∀ j, j < s.size → Q j → p (Utf8.decode s j).1 = true)
    (hC : ∀ j k, j < k → k < s.size → Q k → j + (Utf8.decode s j).2 ≤ k) (k : Nat) (hk : k < s.size) (hq : Q k) (hno : ∀ j, k < j → j < s.size → p (Utf8.decode s j).1 = false) :
    ∀ n a x, k - a ≤ n → a ≤ k → lF s p x (starts s a) = k
  | n, a, x, hn, hak => by
    have hw := decode_width_pos s a (by omega)
    rw [starts_cons s a (by omega), lF_cons]
    rcases Nat.eq_or_lt_of_le hak with rfl | hlt
    · rw [if_pos (hA a hk hq)]
      exact lF_none s p a s.size _ (by omega) (fun j h1 h2 => hno j (by omega) h2)
    · have hc := hC a k hlt hk hq
      match n, hn with
      | 0, hn => omega
      | n + 1, hn => exact lF_hit s p Q hA hC k hk hq hno n _ _ (by omega) hc

theorem set_asc {chars : ByteArray} (ha : ∀ j, j < chars.size → (chars.get! j).toNat < 128) (x : UInt8) (hx : chars.data.toList.contains x = true) : x.toNat < 128 := by
  rw [List.contains_iff_mem] at hx
  obtain ⟨i, hi, he⟩ := List.getElem_of_mem hx
  have hi' : i < chars.size := by simpa using hi
  have := ha i hi'
  have e := get_at chars i hi'
  rw [List.getElem?_eq_getElem hi, he] at e
  rw [Option.some.inj e]; exact this
theorem set_B {s chars : ByteArray} (ha : ∀ j, j < chars.size → (chars.get! j).toNat < 128) (j : Nat) (h : chars.data.toList.contains (s.get! j) = false) : hasR chars (Utf8.decode s j).1 = false := by
  rw [Bool.eq_false_iff]
  intro hp
  obtain ⟨h1, h2⟩ := (hasR_ascii chars ha _).1 hp
  have := asc_B s _ j h1 rfl
  rw [← this, u8c, h] at h2
  cases h2
theorem setL_hit (s chars : ByteArray) (ha : ∀ j, j < chars.size → (chars.get! j).toNat < 128) (k : Nat) (hk : k < s.size) (h : chars.data.toList.contains (s.get! k) = true) (hno : ∀ j, k < j → j < s.size → chars.data.toList.contains (s.get! j) = false) : lP s (hasR chars) (starts s 0) = k := by
  refine lF_hit s (hasR chars) (fun j => chars.data.toList.contains (s.get! j) = true) ?_ ?_ k hk h (fun j h1 h2 => set_B ha j (hno j h1 h2)) k 0 (-1) (by omega) (Nat.zero_le _)
  · intro j _ hq
    have hb := set_asc ha _ hq
    rw [asc_A s _ j hb rfl, hasR_ascii chars ha, u8c]
    exact ⟨hb, hq⟩
  · intro j k hjk hks hq
    have hb := set_asc ha _ hq
    by_cases hc : j + (Utf8.decode s j).2 ≤ k
    · exact hc
    · have := decode_in s j k hjk (by omega); omega
theorem setL_miss (s chars : ByteArray) (ha : ∀ j, j < chars.size → (chars.get! j).toNat < 128) (hno : ∀ j, j < s.size → chars.data.toList.contains (s.get! j) = false) : lP s (hasR chars) (starts s 0) = -1 :=
  lF_none s (hasR chars) (-1) s.size 0 (by omega) (fun j _ hj => set_B ha j (hno j hj))
end Go.Proofs.YtpaieadnicmplaaDoor

/- Plain: the white space at both ends of a text, by the places at which code points begin. -/
set_option linter.unusedVariables false
namespace Go.Proofs.YtpaieadnicmplaaDoor
open Go.RowKit Go.Lib

def notSp (c : Nat) : Bool := !isSpaceR c

theorem left_fP (s : ByteArray) : ∀ f pos, s.size - pos ≤ f → leftFrom s f pos = fP s notSp (starts s pos)
  | f, pos, hf => by
    by_cases hp : pos < s.size
    · have hw := decode_width_pos s pos hp
      match f, hf with
      | 0, hf => omega
      | f + 1, hf =>
        rw [starts_cons s pos hp, fP_cons]
        unfold leftFrom notSp
        rw [if_pos hp]
        by_cases hs : isSpaceR (Utf8.decode s pos).1 = true
        · rw [if_pos hs, hs, if_neg (by decide)]; exact left_fP s f _ (by omega)
        · rw [if_neg hs, if_pos (by simpa using hs)]
    · rw [starts_end s pos (by omega)]
      cases f with
      | zero => rfl
      | succ f => unfold leftFrom; rw [if_neg hp]; rfl

theorem right_lP (s : ByteArray) : ∀ f i pre, Bd s i pre → i ≤ f → rightFrom s f i = lP s notSp pre
  | f, i, pre, hb, hf => by
    by_cases hi : 0 < i
    · obtain ⟨a, pre', hb', ha, rfl, rfl⟩ := hb.inv hi
      have hw := decode_width_pos s a ha
      match f, hf with
      | 0, hf => omega
      | f + 1, hf =>
        rw [lP_snoc]
        unfold rightFrom notSp
        rw [if_pos hi, decLast hb' ha]
        by_cases hs : isSpaceR (Utf8.decode s a).1 = true
        · rw [if_pos hs, hs, if_neg (by decide), show a + (Utf8.decode s a).2 - (Utf8.decode s a).2 = a by omega]; exact right_lP s f a pre' hb' (by omega)
        · rw [if_neg hs, if_pos (by simpa using hs), show a + (Utf8.decode s a).2 - (Utf8.decode s a).2 = a by omega]
    · obtain rfl : i = 0 := by omega
      rw [hb.zero_nil rfl, rightFrom_zero, lP_nil]

theorem lP_mem (s : ByteArray) (p : Nat → Bool) : ∀ l : List Nat, lP s p l = -1 ∨ ∃ a ∈ l, lP s p l = (a : Int) := by
  suffices H : ∀ (l : List Nat) (x : Int), lF s p x l = x ∨ ∃ a ∈ l, lF s p x l = (a : Int) from fun l => H l (-1)
  intro l
  induction l with
  | nil => exact fun x => .inl rfl
  | cons a l ih =>
    intro x
    rw [lF_cons]
    rcases ih (if p (Utf8.decode s a).1 then (a : Int) else x) with h | ⟨b, hb, h⟩
    · rw [h]
      split
      · exact .inr ⟨a, by simp, rfl⟩
      · exact .inl rfl
    · exact .inr ⟨b, by simp [hb], h⟩
theorem fP_at (s : ByteArray) (p : Nat → Bool) : ∀ l : List Nat, fP s p l = -1 ∨ ∃ a ∈ l, fP s p l = (a : Int)
  | [] => .inl rfl
  | a :: l => by
    rw [fP_cons]
    split
    · exact .inr ⟨a, by simp, rfl⟩
    · rcases fP_at s p l with h | ⟨b, hb, h⟩
      · exact .inl h
      · exact .inr ⟨b, by simp [hb], h⟩

/-- All code points of white space. -/
def spc : ByteArray := ⟨#[9, 10, 11, 12, 13, 32, 194, 133, 194, 160, 225, 154, 128, 226, 128, 128, 226, 128, 129, 226, 128, 130, 226, 128, 131, 226, 128, 132, 226, 128, 133, 226, 128, 134, 226, 128, 135, 226, 128, 136, 226, 128, 137, 226, 128, 138, 226, 128, 168, 226, 128, 169, 226, 128, 175, 226, 129, 159, 227, 128, 128]⟩
theorem hasR_any (chars : ByteArray) (c : Nat) : hasR chars c = ((starts chars 0).map fun a => (Utf8.decode chars a).1).any (isR c) := by
  unfold hasR
  generalize starts chars 0 = l
  induction l with
  | nil => rfl
  | cons a l ih =>
    rw [fP_cons, List.map_cons, List.any_cons, ← ih]
    cases h : isR c (Utf8.decode chars a).1 <;> simp
theorem spc_runes : (starts spc 0).map (fun a => (Utf8.decode spc a).1) = [9, 10, 11, 12, 13, 32, 0x85, 0xa0, 0x1680, 0x2000, 0x2001, 0x2002, 0x2003, 0x2004, 0x2005, 0x2006, 0x2007, 0x2008, 0x2009, 0x200a, 0x2028, 0x2029, 0x202f, 0x205f, 0x3000] := by decide +kernel
theorem hasR_spc (c : Nat) : hasR spc c = isSpaceR c := by
  rw [hasR_any, spc_runes, Bool.eq_iff_iff]
  simp [isR, isSpaceR]
  omega
theorem notSp_spc : (fun c => hasR spc c == false) = notSp := by
  funext c
  rw [hasR_spc]
  unfold notSp
  cases isSpaceR c <;> rfl

theorem decodeGoB_suffix (s : ByteArray) (a : Nat) (h : a < s.size) : decodeGoB (s.extract a s.size) = Utf8.decode s a := by
  have hz : (s.extract a s.size).size = s.size - a := by rw [ByteArray.size_extract]; omega
  have hg : ∀ j, (s.extract a s.size).get! j = s.get! (a + j) := fun j => by
    rw [← getD_get!, ← getD_get!, x_list]
    simp [List.getD, List.getElem?_drop]
  unfold decodeGoB
  rw [if_neg (by omega), decode_at, decode_at, hz, hg, hg, hg, hg]
  rfl
theorem trim_eq (s : ByteArray) : goTrimRight (goTrimLeft s) = ⟨(trimSpaceD s.data.toList).toArray⟩ := by
  have h := goTrim_eq s
  unfold goTrim at h
  cases hg : goTrimRight (goTrimLeft s)
  rw [hg] at h
  rw [← h]
end Go.Proofs.YtpaieadnicmplaaDoor

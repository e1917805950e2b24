/- Plain laws: a code point is one of a text. -/
import Derived.Test.YtpaieadnicmplaaDoorRuneL
set_option linter.unusedVariables false
namespace Go.Proofs.YtpaieadnicmplaaDoor
open Go.Lib

theorem fP_cons (s : ByteArray) (p : Nat → Bool) (a : Nat) (l : List Nat) : fP s p (a :: l) = if p (Utf8.decode s a).1 then (a : Int) else fP s p l := rfl
theorem fP_never (s : ByteArray) (p : Nat → Bool) (h : ∀ c, p c = false) : ∀ l, fP s p l = -1
  | [] => rfl
  | a :: l => by rw [fP_cons, h, if_neg (by simp)]; exact fP_never s p h l
theorem fP_congr (s : ByteArray) (p q : Nat → Bool) (h : ∀ c, p c = q c) : fP s p = fP s q := by
  rw [funext h]

/-- Is the code point one of the text's? -/
def hasR (chars : ByteArray) (c : Nat) : Bool := decide (0 ≤ fP chars (isR c) (starts chars 0))
theorem hasR_iff (chars : ByteArray) (c : Nat) : hasR chars c = true ↔ 0 ≤ fP chars (isR c) (starts chars 0) := by unfold hasR; simp

theorem hasR_none (chars : ByteArray) (h : chars.size = 0) (c : Nat) : hasR chars c = false := by
  unfold hasR; rw [starts_end chars 0 (by omega)]; rfl

theorem isR_comm (a b : Nat) : isR (a : Int) b = isR (b : Int) a := by
  unfold isR; exact decide_eq_decide.2 ⟨fun h => h.symm, fun h => h.symm⟩

theorem hasR_one (chars : ByteArray) (h : chars.size = 1) (c : Nat) : hasR chars c = isR ((Utf8.decode chars 0).1 : Int) c := by
  have hw := decode_width_pos chars 0 (by omega)
  unfold hasR
  rw [starts_cons chars 0 (by omega), starts_end chars _ (by omega), fP_cons, isR_comm]
  cases isR ((Utf8.decode chars 0).1 : Int) c <;> rfl

theorem decode_one (chars : ByteArray) (h : chars.size = 1) : (Utf8.decode chars 0).1 = if (chars.get! 0).toNat < 128 then (chars.get! 0).toNat else 65533 := by
  rw [decode_at]
  unfold decodeN
  rw [h]
  repeat' split
  all_goals first | rfl | (exfalso; omega)

theorem fP_mem (s : ByteArray) (p : Nat → Bool) : ∀ l : List Nat, 0 ≤ fP s p l → ∃ a ∈ l, p (Utf8.decode s a).1 = true
  | [], h => by simp [fP] at h
  | a :: l, h => by
    rw [fP_cons] at h
    by_cases hp : p (Utf8.decode s a).1 = true
    · exact ⟨a, by simp, hp⟩
    · rw [if_neg hp] at h
      obtain ⟨b, hb, hpb⟩ := fP_mem s p l h
      exact ⟨b, by simp [hb], hpb⟩

/-- In a text of ASCII bytes: the code point is one of its bytes. -/
theorem hasR_ascii (chars : ByteArray) (ha : ∀ j, j < chars.size → (chars.get! j).toNat < 128) (c : Nat) : hasR chars c = true ↔ c < 128 ∧ chars.data.toList.contains c.toUInt8 = true := by
  rw [hasR_iff]
  constructor
  · intro h
    obtain ⟨a, hm, hp⟩ := fP_mem chars _ _ h
    have hlt := (starts_mem chars chars.size 0 (by omega) a hm).2
    have hb := ha a hlt
    have hc := (isR_iff _ _).1 hp
    rw [asc_A chars _ a hb rfl] at hc
    have hcc : c < 128 := by omega
    refine ⟨hcc, ?_⟩
    rw [List.contains_iff_mem]
    refine List.mem_of_getElem? (i := a) ?_
    rw [get_at chars a hlt]
    refine congrArg some (UInt8.toNat_inj.1 ?_)
    show _ = c % 256
    omega
  · rintro ⟨hc, hm⟩
    rw [fP_ascii chars c (by omega) (by omega), Int.toNat_natCast]
    have hge := indexByte_ge chars.data.toList c.toUInt8
    by_cases h : indexByte chars.data.toList c.toUInt8 = -1
    · rw [List.contains_iff_mem] at hm
      obtain ⟨i, hi, he⟩ := List.getElem_of_mem hm
      exact absurd (List.getElem?_eq_some_iff.2 ⟨hi, he⟩) (indexByte_none h i)
    · omega

theorem u8c (x : UInt8) : x.toNat.toUInt8 = x := by
  apply UInt8.toNat_inj.1
  show x.toNat % 256 = x.toNat
  have := x.toNat_lt
  omega

theorem set_hit (s chars : ByteArray) (ha : ∀ j, j < chars.size → (chars.get! j).toNat < 128) (k : Nat) (hk : k < s.size) (h : chars.data.toList.contains (s.get! k) = true) (hno : ∀ j, j < k → chars.data.toList.contains (s.get! j) = false) : fP s (hasR chars) (starts s 0) = k := by
  have asc : ∀ x : UInt8, chars.data.toList.contains x = true → x.toNat < 128 := fun x hx => by
    rw [List.contains_iff_mem] at hx
    obtain ⟨i, hi, he⟩ := List.getElem_of_mem hx
    have hi' : i < chars.size := by simpa using hi
    have := ha i hi'
    have e := get_at chars i hi'
    rw [List.getElem?_eq_getElem hi, he] at e
    rw [Option.some.inj e]; exact this
  refine fP_hit s (hasR chars) (fun j => chars.data.toList.contains (s.get! j) = true) ?_ ?_ ?_ k 0 k (by omega) (Nat.zero_le _) hk h (fun j _ hj hq => by rw [hno j hj] at hq; cases hq)
  · intro j _ hq
    have hb := asc _ hq
    rw [asc_A s _ j hb rfl, hasR_ascii chars ha, u8c]
    exact ⟨hb, hq⟩
  · intro j _ hp
    obtain ⟨h1, h2⟩ := (hasR_ascii chars ha _).1 hp
    have := asc_B s _ j h1 rfl
    rw [← this, u8c] at h2
    exact h2
  · intro j k hjk hks hq
    have hb := asc _ hq
    by_cases hc : j + (Utf8.decode s j).2 ≤ k
    · exact hc
    · have := decode_in s j k hjk (by omega); omega
theorem set_miss (s chars : ByteArray) (ha : ∀ j, j < chars.size → (chars.get! j).toNat < 128) (hno : ∀ j, j < s.size → chars.data.toList.contains (s.get! j) = false) : fP s (hasR chars) (starts s 0) = -1 := by
  refine fP_miss s (hasR chars) s.size 0 (by omega) (fun j _ hj => ?_)
  rw [Bool.eq_false_iff]
  intro hp
  obtain ⟨h1, h2⟩ := (hasR_ascii chars ha _).1 hp
  have := asc_B s _ j h1 rfl
  rw [← this, u8c, hno j hj] at h2
  cases h2
theorem take_snoc' {l : List Nat} {k a : Nat} (h : l[k]? = some a) : l.take (k + 1) = l.take k ++ [a] := by
  rw [List.take_add_one, h]; rfl

end Go.Proofs.YtpaieadnicmplaaDoor

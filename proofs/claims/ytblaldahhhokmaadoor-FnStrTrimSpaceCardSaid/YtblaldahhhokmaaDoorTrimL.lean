/- Plain: the white space at both ends of a text, by the places at which code points begin. -/
import Derived.Test.YtblaldahhhokmaaDoorLastL
import Derived.Test.YtblaldahhhokmaaDoorExpl
import Derived.Lib.TrimUEq
set_option linter.unusedVariables false
namespace Go.Proofs.YtblaldahhhokmaaDoor
open Go.RowKit Go.Lib

def notSp (c : Nat) : Bool := !isSpaceR c

theorem left_fP (s : ByteArray) : ∀ f pos, s.size - pos ≤ f → leftFrom s f pos = fP s notSp (starts s pos)
  | f, pos, hf => by
    by_cases hp : pos < s.size
    · have hw := decode_width_pos s pos hp
      match f, hf with
      | 0, hf => omega
      | f + 1, hf =>
        rw [starts_cons s pos hp, fP_cons]
        unfold leftFrom notSp
        rw [if_pos hp]
        by_cases hs : isSpaceR (Utf8.decode s pos).1 = true
        · rw [if_pos hs, hs, if_neg (by decide)]; exact left_fP s f _ (by omega)
        · rw [if_neg hs, if_pos (by simpa using hs)]
    · rw [starts_end s pos (by omega)]
      cases f with
      | zero => rfl
      | succ f => unfold leftFrom; rw [if_neg hp]; rfl

theorem right_lP (s : ByteArray) : ∀ f i pre, Bd s i pre → i ≤ f → rightFrom s f i = lP s notSp pre
  | f, i, pre, hb, hf => by
    by_cases hi : 0 < i
    · obtain ⟨a, pre', hb', ha, rfl, rfl⟩ := hb.inv hi
      have hw := decode_width_pos s a ha
      match f, hf with
      | 0, hf => omega
      | f + 1, hf =>
        rw [lP_snoc]
        unfold rightFrom notSp
        rw [if_pos hi, decLast hb' ha]
        by_cases hs : isSpaceR (Utf8.decode s a).1 = true
        · rw [if_pos hs, hs, if_neg (by decide), show a + (Utf8.decode s a).2 - (Utf8.decode s a).2 = a by omega]; exact right_lP s f a pre' hb' (by omega)
        · rw [if_neg hs, if_pos (by simpa using hs), show a + (Utf8.decode s a).2 - (Utf8.decode s a).2 = a by omega]
    · obtain rfl : i = 0 := by omega
      rw [hb.zero_nil rfl, rightFrom_zero, lP_nil]

theorem lP_mem (s : ByteArray) (p : Nat → Bool) : ∀ l : List Nat, lP s p l = -1 ∨ ∃ a ∈ l, lP s p l = (a : Int) := by
  suffices H : ∀ (l : List Nat) (x : Int), lF s p x l = x ∨ ∃ a ∈ l, lF s p x l = (a : Int) from fun l => H l (-1)
  intro l
  induction l with
  | nil => exact fun x => .inl rfl
  | cons a l ih =>
    intro x
    rw [lF_cons]
    rcases ih (if p (Utf8.decode s a).1 then (a : Int) else x) with h | ⟨b, hb, h⟩
    · rw [h]
      split
      · exact .inr ⟨a, by simp, rfl⟩
      · exact .inl rfl
    · exact .inr ⟨b, by simp [hb], h⟩
theorem fP_at (s : ByteArray) (p : Nat → Bool) : ∀ l : List Nat, fP s p l = -1 ∨ ∃ a ∈ l, fP s p l = (a : Int)
  | [] => .inl rfl
  | a :: l => by
    rw [fP_cons]
    split
    · exact .inr ⟨a, by simp, rfl⟩
    · rcases fP_at s p l with h | ⟨b, hb, h⟩
      · exact .inl h
      · exact .inr ⟨b, by simp [hb], h⟩

/-- All code points of white space. -/
def spc : ByteArray := ⟨#[9, 10, 11, 12, 13, 32, 194, 133, 194, 160, 225, 154, 128, 226, 128, 128, 226, 128, 129, 226, 128, 130, 226, 128, 131, 226, 128, 132, 226, 128, 133, 226, 128, 134, 226, 128, 135, 226, 128, 136, 226, 128, 137, 226, 128, 138, 226, 128, 168, 226, 128, 169, 226, 128, 175, 226, 129, 159, 227, 128, 128]⟩
theorem hasR_any (chars : ByteArray) (c : Nat) : hasR chars c = ((starts chars 0).map fun a => (Utf8.decode chars a).1).any (isR c) := by
  unfold hasR
  generalize starts chars 0 = l
  induction l with
  | nil => rfl
  | cons a l ih =>
    rw [fP_cons, List.map_cons, List.any_cons, ← ih]
    cases h : isR c (Utf8.decode chars a).1 <;> simp
theorem spc_runes : (starts spc 0).map (fun a => (Utf8.decode spc a).1) = [9, 10, 11, 12, 13, 32, 0x85, 0xa0, 0x1680, 0x2000, 0x2001, 0x2002, 0x2003, 0x2004, 0x2005, 0x2006, 0x2007, 0x2008, 0x2009, 0x200a, 0x2028, 0x2029, 0x202f, 0x205f, 0x3000] := by decide +kernel
theorem hasR_spc (c : Nat) : hasR spc c = isSpaceR c := by
  rw [hasR_any, spc_runes, Bool.eq_iff_iff]
  simp [isR, isSpaceR]
  omega
theorem notSp_spc : (fun c => hasR spc c == false) = notSp := by
  funext c
  rw [hasR_spc]
  unfold notSp
  cases isSpaceR c <;> rfl

theorem decodeGoB_suffix (s : ByteArray) (a : Nat) (h : a < s.size) : decodeGoB (s.extract a s.size) = Utf8.decode s a := by
  have hz : (s.extract a s.size).size = s.size - a := by rw [ByteArray.size_extract]; omega
  have hg : ∀ j, (s.extract a s.size).get! j = s.get! (a + j) := fun j => by
    rw [← getD_get!, ← getD_get!, x_list]
    simp [List.getD, List.getElem?_drop]
  unfold decodeGoB
  rw [if_neg (by omega), decode_at, decode_at, hz, hg, hg, hg, hg]
  rfl
theorem trim_eq (s : ByteArray) : goTrimRight (goTrimLeft s) = ⟨(trimSpaceD s.data.toList).toArray⟩ := by
  have h := goTrim_eq s
  unfold goTrim at h
  cases hg : goTrimRight (goTrimLeft s)
  rw [hg] at h
  rw [← h]
end Go.Proofs.YtblaldahhhokmaaDoor

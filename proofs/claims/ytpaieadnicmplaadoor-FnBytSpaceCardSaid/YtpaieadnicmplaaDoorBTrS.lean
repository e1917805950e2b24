/- gobytes.TrimSpace: a slice of the argument's own cells that reads as the trimmed text. -/
import Derived.Test.YtpaieadnicmplaaDoorBTr
import Derived.Test.YtpaieadnicmplaaDoorByt
import Derived.Lib.TrimUEq
import Derived.Lib.TrimAscii
set_option linter.unusedVariables false
namespace Go.Proofs.YtpaieadnicmplaaDoor
open Go.Shelf Go.RowKit Go.Lib

theorem idx_left (s : ByteArray) : ∀ f pos, Lib.idxFuncFrom isSpaceR false s f pos = Lib.leftFrom s f pos
  | 0, _ => rfl
  | f + 1, pos => by
    unfold Lib.idxFuncFrom Lib.leftFrom
    rw [idx_left s f]
    cases isSpaceR (Utf8.decode s pos).1 <;> simp
theorem idxFunc_left (s : ByteArray) : Lib.idxFunc isSpaceR false s = Lib.leftIdx s := idx_left s s.size 0
theorem last_right (s : ByteArray) : ∀ f i, Lib.lastIdxFuncFrom isSpaceR false s f i = Lib.rightFrom s f i
  | 0, _ => rfl
  | f + 1, i => by
    unfold Lib.lastIdxFuncFrom Lib.rightFrom
    rw [last_right s f]
    cases isSpaceR (Lib.decodeLastL (s.data.toList.take i)).1 <;> simp
theorem rightEnd_eq (s : ByteArray) : Lib.rightEndF isSpaceR s = Lib.rightEnd s := by
  unfold Lib.rightEndF Lib.rightEnd
  rw [show Lib.lastIdxFunc isSpaceR false s = Lib.rightIdx s from last_right s s.size s.size]
theorem rightEnd_le (s : ByteArray) : Lib.rightEnd s ≤ s.size := by
  unfold Lib.rightEnd
  split
  · next h =>
    have h1 : Lib.rightIdx s = -1 ∨ (0 ≤ Lib.rightIdx s ∧ Lib.rightIdx s ≤ s.size) := Lib.rightFrom_range s s.size s.size
    have h2 := Lib.decodeGo_le_size (s.extract (Lib.rightIdx s).toNat s.size)
    rw [Lib.tail_size] at h2
    have h3 : (Lib.decodeGoB (s.extract (Lib.rightIdx s).toNat s.size)).2 ≤ s.size - (Lib.rightIdx s).toNat := h2
    omega
  · exact Nat.zero_le _
/-- The value reads as the bytes t of block b. -/
def SlB (W : World) (v : Value) (b : Nat) (t : ByteArray) : Prop := (v = .slice none 0 0 ∧ t.size = 0) ∨ ∃ f cp, v = .slice (some ⟨b, f, none⟩) t.size cp ∧ t.size ≤ cp ∧ Lib.Bytes W b f t
theorem SlB.below {w W : World} {v : Value} {b : Nat} {t : ByteArray} (h : SlB w v b t) (hb : b < w.heap.size) (hB : Below w.heap.size w W) : SlB W v b t := by
  rcases h with h | ⟨f, cp, h1, h2, h3⟩
  · exact .inl h
  · exact .inr ⟨f, cp, h1, h2, bytes_below h3 hB hb⟩
theorem byt_fromT {w : World} {g o : Nat} {x : ByteArray} (h : Lib.Bytes w g o x) (k : Nat) (hk : k ≤ x.size) : Lib.Bytes w g (o + k) (x.extract k x.size) := fun i hi => by
  rw [ByteArray.size_extract] at hi
  have := h (k + i) (by omega)
  rw [Nat.add_assoc, this, ByteArray.getElem_extract]
theorem byt_toT {w : World} {g o : Nat} {x : ByteArray} (h : Lib.Bytes w g o x) (k : Nat) (hk : k ≤ x.size) : Lib.Bytes w g o (x.extract 0 k) := fun i hi => by
  rw [ByteArray.size_extract] at hi
  have := h i (by omega)
  rw [this, ByteArray.getElem_extract]
  simp
theorem bytesAt_of {w : World} {b o : Nat} {s : ByteArray} (h : Lib.Bytes w b o s) : BytesAt s b o w := fun j hj => by
  rw [h j hj, show s.get! j = s[j] from getElem!_pos s.data j hj]
theorem trimCut_reads (s : ByteArray) (b off cap : Nat) (w : World) (hcap : s.size ≤ cap) (hB : Lib.Bytes w b off s) : SlB w (trimCut isSpaceR s b off cap) b (Lib.goTrim s) := by
  unfold trimCut
  rw [idxFunc_left]
  by_cases h : Lib.leftIdx s = -1
  · rw [if_pos h]
    refine .inl ⟨rfl, ?_⟩
    unfold Lib.goTrim Lib.goTrimLeft Lib.goTrimRight
    rw [if_pos h, ByteArray.size_extract]
    have := rightEnd_le ⟨#[]⟩
    have h0 : (ByteArray.mk #[]).size = 0 := rfl
    omega
  · rw [if_neg h]
    obtain ⟨i, hi⟩ : ∃ i, i = (Lib.leftIdx s).toNat := ⟨_, rfl⟩
    have hrg : Lib.leftIdx s = -1 ∨ ((0 : Int) ≤ Lib.leftIdx s ∧ Lib.leftIdx s < s.size) := by
      have := Lib.idxFuncFrom_range isSpaceR false s s.size 0
      rw [idx_left] at this
      have h' : Lib.leftFrom s s.size 0 = Lib.leftIdx s := rfl
      rw [h'] at this
      omega
    have his : i ≤ s.size := by omega
    have hg : Lib.goTrim s = (s.extract i s.size).extract 0 (Lib.rightEnd (s.extract i s.size)) := by
      unfold Lib.goTrim Lib.goTrimLeft Lib.goTrimRight
      rw [if_neg h, hi]
    rw [← hi, hg]
    unfold rightCut
    rw [rightEnd_eq]
    have hle := rightEnd_le (s.extract i s.size)
    have hsz : (s.extract i s.size).size = s.size - i := by rw [ByteArray.size_extract]; omega
    have hsz2 : ((s.extract i s.size).extract 0 (Lib.rightEnd (s.extract i s.size))).size = Lib.rightEnd (s.extract i s.size) := by rw [ByteArray.size_extract]; omega
    refine .inr ⟨off + i, cap - i, by rw [hsz2], by omega, ?_⟩
    exact byt_toT (byt_fromT hB i his) _ hle
end Go.Proofs.YtpaieadnicmplaaDoor

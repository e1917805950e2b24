/- An argument that is a slice of strings: how it reads, and its bulk. -/
import Derived.Test.YtnigbgablginnaaStrs
import Derived.SliceStrings
import Derived.Carry
import Derived.Deep.MidRow
set_option linter.unusedVariables false
namespace Go.Proofs.Ytnigbgablginnaa
open Go.ChangeShapes Go.WideShapes Go.RowKit Go.Lib

/-- The bulk of some texts. -/
def bulkS (xs : List ByteArray) : Nat := (xs.map fun x => x.size + 1).sum
theorem bulkS_nil : bulkS [] = 0 := rfl
theorem bulkS_cons (x : ByteArray) (xs : List ByteArray) : bulkS (x :: xs) = x.size + 1 + bulkS xs := by simp [bulkS]
theorem bulkS_append (xs ys : List ByteArray) : bulkS (xs ++ ys) = bulkS xs + bulkS ys := by simp [bulkS]
theorem bulkS_len (xs : List ByteArray) : xs.length ≤ bulkS xs := by
  induction xs with
  | nil => exact Nat.le_refl _
  | cons x xs ih => rw [bulkS_cons, List.length_cons]; omega
theorem bulkS_mem {x : ByteArray} {xs : List ByteArray} (h : x ∈ xs) : x.size + 1 ≤ bulkS xs := by
  induction xs with
  | nil => cases h
  | cons y ys ih =>
    rw [bulkS_cons]
    rcases List.mem_cons.1 h with rfl | h
    · omega
    · have := ih h; omega
theorem bulk_strs {H : Type} (xs : List ByteArray) : Rows.uptoBulkAll (strs (H := H) xs) = bulkS xs := by
  induction xs with
  | nil => rfl
  | cons x xs ih =>
    show Rows.uptoBulk (DataW.lit (.string x.data.toList)) + Rows.uptoBulkAll (strs xs) = _
    rw [ih, bulkS_cons]
    simp [Rows.uptoBulk]

theorem strs_laid : laidOutB Try.prog = true := by kernel_rfl
theorem strs_cells : Try.prog.cellsOf 9 = 1 := by kernel_rfl
theorem strs_rec : Try.prog.readableRec 22 = true := by kernel_rfl
theorem strs_row : 22 < Try.prog.types.size := of_decide_eq_true (by kernel_rfl)

theorem strs_open {H : Type} {enc : TypeId × Value → H} {W : World} {A : Option Addr} {len cap : Nat} {d : DataW H} {p : List MemPlace}
    (h : DataW.Trod enc Try.prog W 0 (fun _ => true) true 22 (.slice A len cap) d p) :
    ∃ xs : List ByteArray, StrsAt W (.slice A len cap) xs ∧ (∀ x ∈ xs, x.size ≤ maxLen) ∧ xs.length ≤ maxLen ∧ bulkS xs + 1 ≤ Rows.uptoBulk d := by
  obtain ⟨fuel, hf⟩ := h
  rcases open_strings Try.underlying22 Try.underlying9 strs_cells hf with ⟨hcs, hx⟩ | ⟨a, len', cap', ss, hcs, _, hl, hm, hz, hx, hcell, hws⟩
  · simp [Value.cells] at hcs
    obtain ⟨rfl, rfl, rfl⟩ := hcs
    simp only [Prod.mk.injEq] at hx
    obtain ⟨rfl, rfl⟩ := hx
    exact ⟨[], StrsAt.nil W, (fun x hx => by cases hx), Nat.zero_le _, by simp [Rows.uptoBulk, bulkS]⟩
  · simp [Value.cells] at hcs
    obtain ⟨rfl, rfl, rfl⟩ := hcs
    simp only [Prod.mk.injEq] at hx
    obtain ⟨rfl, rfl⟩ := hx
    simp only [if_true] at hz
    have hlen : (ss.take len).length = len := by rw [List.length_take]; omega
    refine ⟨ss.take len, ⟨some a, cap, by rw [hlen], by rw [hlen]; exact hl, fun hne => ?_⟩, fun x hx => hws x (List.mem_of_mem_take hx), by rw [hlen]; omega, ?_⟩
    · have h0 : 0 < len := by
        rcases Nat.eq_zero_or_pos len with h | h
        · rw [h, List.take_zero] at hne; exact absurd rfl hne
        · exact h
      obtain ⟨b, off, spot⟩ := a
      have hspot : spot = none := by simpa [Addr.add] using World.cell?_spot (hcell 0 (by omega))
      subst hspot
      have hc : ∀ j, j < len → W.cell? ⟨b, off + j, none⟩ = some (.string (ss.getD j ByteArray.empty)) := fun j hj => by
        have := hcell j (by omega)
        rwa [Addr.add_mid] at this
      refine ⟨b, off, rfl, World.block_lt_of_cell? _ _ (hc 0 h0), fun j u hu => ?_⟩
      have hj : j < len := by have := (List.getElem?_eq_some_iff.1 hu).1; omega
      rw [hc j hj]
      rw [List.getElem?_take_of_lt hj] at hu
      rw [List.getD_eq_getElem?_getD, hu]; rfl
    · show _ ≤ Rows.uptoBulkAll (strs (ss.take len)) + Rows.uptoBulkAll (strs (ss.drop len)) + 1
      rw [bulk_strs, bulk_strs]; omega
end Go.Proofs.Ytnigbgablginnaa

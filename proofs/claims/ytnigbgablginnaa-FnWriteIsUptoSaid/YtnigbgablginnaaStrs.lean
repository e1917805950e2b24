/- Slices of strings: how they read; SeSame. -/
import Derived.Test.YtnigbgablginnaaBas
import Derived.Laws.OwnMore
namespace Go.Proofs.Ytnigbgablginnaa
open Go.RowKit Go.Lib

/-- The slice value v reads as the list xs of strings. -/
def StrsAt (w : World) (v : Value) (xs : List ByteArray) : Prop :=
  ∃ (A : Option Addr) (c : Nat), v = .slice A xs.length c ∧ xs.length ≤ c ∧ (xs ≠ [] → ∃ g o, A = some ⟨g, o, none⟩ ∧ g < w.heap.size ∧ ∀ j u, xs[j]? = some u → w.cell? ⟨g, o + j, none⟩ = some (.string u))

theorem StrsAt.nil (w : World) : StrsAt w (.slice none 0 0) [] := ⟨none, 0, rfl, Nat.le_refl _, fun h => absurd rfl h⟩
theorem StrsAt.below {w w' : World} {v : Value} {xs : List ByteArray} (h : StrsAt w v xs) (hb : Below w.heap.size w w') : StrsAt w' v xs := by
  obtain ⟨A, c, e, hc, hx⟩ := h
  refine ⟨A, c, e, hc, fun hne => ?_⟩
  obtain ⟨g, o, eA, hg, hcell⟩ := hx hne
  exact ⟨g, o, eA, Nat.lt_of_lt_of_le hg hb.size, fun j u hu => (hb.cell (p := ⟨g, o + j, none⟩) hg).trans (hcell j u hu)⟩
theorem StrsAt.of_own {w : World} {base : Nat} {e : TypeId} {v : Value} {xs : List ByteArray} (h : w.ownsRow base e 1 v xs.length (xs.map Value.string)) : StrsAt w v xs := by
  have hcells := fun g (hg : v.ownBlock = some g) => h.cells hg
  have hlt := h.lt
  rcases h.2 with ⟨rfl, h0⟩ | ⟨g, cap, cur, rfl, hg, hh, hc, _⟩
  · have : xs = [] := List.eq_nil_of_length_eq_zero h0
    subst this
    exact StrsAt.nil w
  · refine ⟨_, cap, rfl, hc, fun _ => ⟨g, 0, rfl, (hlt g rfl).2, fun j u hu => ?_⟩⟩
    have := hcells g rfl j (.string u) (by rw [List.getElem?_map, hu]; rfl)
    rw [Addr.add_lit] at this
    exact this

theorem str_info : (Try.prog.info? 9).map (fun i => (i.zero, i.size, i.bytes)) = some (some (.string ByteArray.empty), 1, 16) := by kernel_rfl

end Go.Proofs.Ytnigbgablginnaa

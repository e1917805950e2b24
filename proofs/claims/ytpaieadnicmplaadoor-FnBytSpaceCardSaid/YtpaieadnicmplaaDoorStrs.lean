/- Slices of strings: how they read; SeSame. -/
import Derived.Test.YtpaieadnicmplaaDoorBas
import Derived.Laws.OwnMore
namespace Go.Proofs.YtpaieadnicmplaaDoor
open Go.RowKit Go.Lib

/-- The slice value v reads as the list xs of strings. -/
def StrsAt (w : World) (v : Value) (xs : List ByteArray) : Prop :=
  ∃ (A : Option Addr) (c : Nat), v = .slice A xs.length c ∧ xs.length ≤ c ∧ (xs ≠ [] → ∃ g o, A = some ⟨g, o, none⟩ ∧ g < w.heap.size ∧ ∀ j u, xs[j]? = some u → w.cell? ⟨g, o + j, none⟩ = some (.string u))

theorem StrsAt.nil (w : World) : StrsAt w (.slice none 0 0) [] := ⟨none, 0, rfl, Nat.le_refl _, fun h => absurd rfl h⟩
theorem StrsAt.below {w w' : World} {v : Value} {xs : List ByteArray} (h : StrsAt w v xs) (hb : Below w.heap.size w w') : StrsAt w' v xs := by
  obtain ⟨A, c, e, hc, hx⟩ := h
  refine ⟨A, c, e, hc, fun hne => ?_⟩
  obtain ⟨g, o, eA, hg, hcell⟩ := hx hne
  exact ⟨g, o, eA, Nat.lt_of_lt_of_le hg hb.size, fun j u hu => (hb.cell (p := ⟨g, o + j, none⟩) hg).trans (hcell j u hu)⟩
theorem StrsAt.of_own {w : World} {base : Nat} {e : TypeId} {v : Value} {xs : List ByteArray} (h : w.ownsRow base e 1 v xs.length (xs.map Value.string)) : StrsAt w v xs := by
  have hcells := fun g (hg : v.ownBlock = some g) => h.cells hg
  have hlt := h.lt
  rcases h.2 with ⟨rfl, h0⟩ | ⟨g, cap, cur, rfl, hg, hh, hc, _⟩
  · have : xs = [] := List.eq_nil_of_length_eq_zero h0
    subst this
    exact StrsAt.nil w
  · refine ⟨_, cap, rfl, hc, fun _ => ⟨g, 0, rfl, (hlt g rfl).2, fun j u hu => ?_⟩⟩
    have := hcells g rfl j (.string u) (by rw [List.getElem?_map, hu]; rfl)
    rw [Addr.add_lit] at this
    exact this

theorem str_info : (Tryd.prog.info? 9).map (fun i => (i.zero, i.size, i.bytes)) = some (some (.string ByteArray.empty), 1, 16) := by kernel_rfl

theorem SeSame_core (ys : List ByteArray) (n g o c g' o' c' : Nat) (w : World) (hn : Hid (ys.length = n)) (hl : n < 4294967281) (C : Hid (∀ j u, ys[j]? = some u → w.cell? ⟨g, o + j, none⟩ = some (.string u))) (C' : Hid (∀ j u, ys[j]? = some u → w.cell? ⟨g', o' + j, none⟩ = some (.string u))) :
    Calls Tryd.prog 10 #[.slice (some ⟨g, o, none⟩) n c, .slice (some ⟨g', o', none⟩) n c'] w fun e w' => e = .returned (.bool true) ∧ w = w' := by
  go_enter Tryd.func10, Tryd.ntmps10
  go_wp2
  go_loop [5, 6, 14] (fun _ _ i => ∃ k : Nat, k ≤ n ∧ i = .int .i64 k) (fun _ _ i => n - (RowKit.intOf i).toNat)
  case atStart => exact ⟨0, Nat.zero_le _, rfl⟩
  case round =>
    obtain ⟨k, hk, rfl⟩ := hrel
    by_cases hlt : k < n
    · obtain ⟨u, hu⟩ : ∃ u, ys[k]? = some u := ⟨_, List.getElem?_eq_getElem (by rw [hn.out]; exact hlt)⟩
      have c1 := C.out k u hu
      have c2 := C'.out k u hu
      have hne : (u.toList != u.toList) = false := by simp
      clear hu
      go_wp2
      go_round
      case rel => exact ⟨k + 1, by omega, by go_num⟩
      case measure => simp [RowKit.intOf]; omega
    · go_wp2
      go_ret
      exact ⟨rfl, rfl⟩

theorem SeSame_nil (A A' : Option Addr) (c c' : Nat) (w : World) :
    Calls Tryd.prog 10 #[.slice A 0 c, .slice A' 0 c'] w fun e w' => e = .returned (.bool true) ∧ w = w' := by
  go_enter Tryd.func10, Tryd.ntmps10
  go_wp2
  go_loop [5, 6, 14] (fun _ _ i => i = .int .i64 0) (fun _ _ _ => 0)
  case atStart => rfl
  case round =>
    subst hrel
    go_wp2
    go_ret
    exact ⟨rfl, rfl⟩

/-- Same lists are told the same. -/
theorem SeSame (xs : List ByteArray) (v v' : Value) (w : World) (hv : StrsAt w v xs) (hv' : StrsAt w v' xs) (hl : xs.length < 4294967281) :
    Calls Tryd.prog 10 #[v, v'] w fun e w' => e = .returned (.bool true) ∧ w = w' := by
  obtain ⟨A, c, rfl, hc, hx⟩ := hv
  obtain ⟨A', c', rfl, hc', hx'⟩ := hv'
  by_cases h0 : xs = []
  · subst h0; exact SeSame_nil A A' c c' w
  · obtain ⟨g, o, rfl, hg, hcell⟩ := hx h0
    obtain ⟨g', o', rfl, hg', hcell'⟩ := hx' h0
    exact SeSame_core xs xs.length g o c g' o' c' w rfl hl hcell hcell'
end Go.Proofs.YtpaieadnicmplaaDoor

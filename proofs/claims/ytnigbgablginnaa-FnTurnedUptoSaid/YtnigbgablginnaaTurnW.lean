/- The reference's Turned. -/
import Derived.Test.YtnigbgablginnaaTurnL
import Derived.Test.YtnigbgablginnaaPrS
set_option linter.unusedVariables false
namespace Go.Proofs.Ytnigbgablginnaa
open Go.RowKit Go.Lib

theorem own_slice {w : World} {base : Nat} {e : TypeId} {v : Value} {n : Nat} {xs : List Value} (h : w.ownsRow base e 1 v n xs) : ∃ A c, v = .slice A n c := by
  rcases h.2 with ⟨rfl, rfl⟩ | ⟨g, cap, cur, rfl, _⟩
  · exact ⟨_, _, rfl⟩
  · exact ⟨_, _, rfl⟩
def TurnR (xs : List ByteArray) (w : World) (e : Ending) (w' : World) : Prop := ∃ (v' : Value) (m : Nat), e = .returned v' ∧ 2 * m ≤ xs.length ∧ StrsAt w' v' (turned xs m) ∧ Below w.heap.size w w'
set_option maxRecDepth 100000 in
set_option maxHeartbeats 2000000 in
theorem Turned (xs : List ByteArray) (v : Value) (from_ : Int) (w : World) (hv : StrsAt w v xs) (he : xs.length % 2 = 0) (hm : xs.length ≤ 2147483647) (h0 : -9223372036854775808 ≤ from_) (h1 : from_ ≤ 9223372036854775807) :
    Calls Try.prog 24 #[v, .int .i64 from_] w (TurnR xs w) := by
  obtain ⟨N, hN⟩ : ∃ N, xs.length = 2 * N := ⟨xs.length / 2, by omega⟩
  obtain ⟨A, c, rfl⟩ := hv.shape
  obtain ⟨_, hc, hcells⟩ := hv.cells
  rw [hN] at hc hm ⊢
  have q1 : (((2 * N : Nat) : Int) / 2) = (N : Int) := by omega
  have q1' : (((2 * N : Nat) : Int).tdiv 2) = (N : Int) := by rw [Int.tdiv_eq_ediv_of_nonneg (by omega)]; exact q1
  have HC := Lib.hid hcells
  have HN := Lib.hid hN
  clear hv hcells he hN
  by_cases hz : N = 0
  · have hxe : xs = [] := List.eq_nil_of_length_eq_zero (by have := HN.out; omega)
    have HR : Hid (TurnR xs w (.returned (.slice none 0 0)) w) := Lib.hid ⟨_, 0, rfl, Nat.zero_le _, by rw [hxe]; exact StrsAt.nil w, Below.refl _ _⟩
    subst hz
    clear hxe
    go_enter Try.func24, Try.ntmps24
    go_wp2
    go_ret
    exact HR.out
  · have hb : ((N : Int) == 0) = false := by rw [beq_eq_false_iff_ne]; omega
    have r1 := Int.tmod_lt_of_pos from_ (by omega : (0 : Int) < N)
    have r2 := Int.lt_tmod_of_pos from_ (by omega : (0 : Int) < N)
    obtain ⟨m, hmm⟩ : ∃ m : Nat, from_.tmod (N : Int) % (N : Int) = (m : Int) := ⟨(from_.tmod (N : Int) % (N : Int)).toNat, by rw [Int.toNat_of_nonneg (Int.emod_nonneg _ (by omega))]⟩
    have hmN : m < N := by
      have := Int.emod_lt_of_pos (from_.tmod (N : Int)) (by omega : (0 : Int) < N)
      rw [hmm] at this; omega
    obtain ⟨x0, hx0⟩ : ∃ x, xs[0]? = some x := ⟨_, List.getElem?_eq_getElem (by have := HN.out; omega)⟩
    obtain ⟨G, o, rfl, hG, _⟩ := HC.out 0 x0 hx0
    have HS1 : Hid (∀ j u, ((xs.drop (2 * m)).map Value.string)[j]? = some u → (w.alloc (.cells #[] 9)).cell? (Addr.add ⟨G, o + 2 * m, none⟩ j) = some u) := Lib.hid (fun j u hu => by
      rw [List.getElem?_map, List.getElem?_drop] at hu
      cases hxj : xs[2 * m + j]? with
      | none => rw [hxj] at hu; cases hu
      | some x =>
        rw [hxj] at hu
        obtain rfl : Value.string x = u := Option.some.inj hu
        obtain ⟨G', o', e, _, hcc⟩ := HC.out _ x hxj
        obtain ⟨rfl, rfl⟩ : G = G' ∧ o = o' := by cases e; exact ⟨rfl, rfl⟩
        rw [Addr.add_mid, Nat.add_assoc]
        exact Lib.cell?_alloc_some _ hcc)
    have HS2 : Hid (∀ j u, ((xs.take (2 * m)).map Value.string)[j]? = some u → w.cell? (Addr.add ⟨G, o, none⟩ j) = some u) := Lib.hid (fun j u hu => by
      rw [List.getElem?_map] at hu
      cases hxj : (xs.take (2 * m))[j]? with
      | none => rw [hxj] at hu; cases hu
      | some x =>
        rw [hxj] at hu
        obtain rfl : Value.string x = u := Option.some.inj hu
        have hj := (List.getElem?_eq_some_iff.1 hxj).1
        rw [List.length_take] at hj
        rw [List.getElem?_take_of_lt (by omega)] at hxj
        obtain ⟨G', o', e, _, hcc⟩ := HC.out _ x hxj
        obtain ⟨rfl, rfl⟩ : G = G' ∧ o = o' := by cases e; exact ⟨rfl, rfl⟩
        rw [Addr.add_mid]; exact hcc)
    have HD1 : Hid (((xs.drop (2 * m)).map Value.string).length = (2 * N - 2 * m) * 1) := Lib.hid (by rw [List.length_map, List.length_drop, HN.out]; omega)
    have HD2 : Hid (((xs.take (2 * m)).map Value.string).length = (2 * m) * 1) := Lib.hid (by rw [List.length_map, List.length_take, HN.out]; omega)
    have H1 : ∀ (l : List ByteArray), Hid (∀ u ∈ l.map Value.string, u.oneCell' = true) := fun l => Lib.hid (fun u hu => by obtain ⟨x, _, rfl⟩ := List.mem_map.1 hu; rfl)
    have HO0 : Hid ((w.alloc (.cells #[] 9)).ownsRow w.heap.size 9 1 (.slice (some ⟨w.heap.size, 0, none⟩) 0 0) 0 []) := Lib.hid (World.ownsRow_made w #[] 0 (Nat.le_refl _) (by unfold maxLen; omega) rfl)
    have HB0 : Hid (Below w.heap.size w (w.alloc (.cells #[] 9))) := Lib.hid ((Below.refl _ w).alloc (Nat.le_refl _) _)
    obtain ⟨i0, hi, hz0, hz1, hz2⟩ := info_parts str_info
    have k1 : (2 : Int) * (m : Int) ≤ 2 * (N : Int) := by omega
    have k2 : (2 : Int) * (N : Int) ≤ (c : Int) := by omega
    have k3 : ¬ c = 2 * m := by omega
    have k4 : ¬ c - 2 * m = 0 := by omega
    have k5 : ¬ 2 * N - 2 * m = 0 := by omega
    clear hx0 hz
    go_enter Try.func24, Try.ntmps24
    go_wp2_with (first | (at_builtin; (refine wpList_append_own _ rfl _ _ 22 rfl w.heap.size 9 i0 (.string ByteArray.empty) 1 16 Try.underlying22 hi hz0 hz1 hz2 rfl (by decide) _ 0 [] rfl HO0.out ⟨G, o + 2 * m, none⟩ (2 * N - 2 * m) (c - 2 * m) ((xs.drop (2 * m)).map Value.string) rfl HD1.out HS1.out (H1 _).out (by unfold maxLen; omega) (by omega) (by simp) ?_); intro v1 w2 hown hgrow _; simp only [Nat.zero_add, List.nil_append] at hown; have HB2 : Hid (Below w.heap.size w w2) := Lib.hid (HB0.out.grown hgrow (by simp) (fun k ek => (HO0.out.lt k ek).1)); have HO2 := Lib.hid hown; obtain ⟨A1, c1, rfl⟩ := own_slice hown; clear hown hgrow) | (at_builtin; (refine wpList_append_own _ rfl _ _ 22 rfl w.heap.size 9 i0 (.string ByteArray.empty) 1 16 Try.underlying22 hi hz0 hz1 hz2 rfl (by decide) _ _ _ rfl HO2.out ⟨G, o, none⟩ (2 * m) c ((xs.take (2 * m)).map Value.string) rfl HD2.out (fun j u hu => (HB2.out.cell (p := Addr.add ⟨G, o, none⟩ j) (by rw [Addr.add_mid]; exact hG)).trans (HS2.out j u hu)) (H1 _).out (by unfold maxLen; omega) (by omega) HB2.out.size ?_); intro v2 w3 hown hgrow _; have HB3 : Hid (Below w.heap.size w w3) := Lib.hid (HB2.out.grown hgrow HB2.out.size (fun k ek => (HO2.out.lt k ek).1)); have HO3 := Lib.hid hown; clear hown hgrow))
    go_ret
    refine ⟨_, m, rfl, by have := HN.out; omega, StrsAt.of_own (base := w.heap.size) (e := 9) ?_, HB3.out⟩
    have hh := HO3.out
    have hlen : (turned xs m).length = (2 * N - 2 * m) + 2 * m := by rw [turned_len xs m (by rw [HN.out]; omega), HN.out]; omega
    rw [hlen]
    simpa [turned] using hh
end Go.Proofs.Ytnigbgablginnaa

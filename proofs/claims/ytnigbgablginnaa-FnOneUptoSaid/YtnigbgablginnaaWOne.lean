/- The walk of FnOne. -/
import Derived.Test.YtnigbgablginnaaRepS
set_option linter.unusedVariables false
namespace Go.Proofs.Ytnigbgablginnaa
open Go.RowKit Go.Lib

theorem pv_at (p v : ByteArray) (W : World) : StrsAt (W.alloc (.cells #[.string p, .string v] 9)) (.slice (some ⟨W.heap.size, 0, none⟩) 2 2) [p, v] := ⟨_, _, rfl, by simp, fun _ => ⟨_, _, rfl, by simp, fun j u hu => by
  rw [cell_of_row _ _ _ _ _ _ (heap_alloc_new W _)]
  match j, hu with
  | 0, hu => cases hu; rfl
  | 1, hu => cases hu; rfl⟩⟩
/-- One text by another, as a text. -/
def one1 (p v s : ByteArray) : ByteArray := ⟨(repl [(p.data.toList, v.data.toList)] s.data.toList true).toArray⟩
theorem one_sgl (p v s : ByteArray) (h1 : 1 ≤ p.size) : one1 p v s = sgl p v s := by
  have hpe : p.data.toList ≠ [] := fun e => by have := Lib.size_eq p; rw [e, List.length_nil] at this; omega
  unfold one1 sgl
  rw [rk_repl _ _ hpe _ _ (Nat.le_refl _)]
set_option maxRecDepth 100000 in
set_option maxHeartbeats 4000000 in
theorem walk_FnOne (p v s : ByteArray) (w : World) (_hp : p.size ≤ maxLen) (_hv : v.size ≤ maxLen) (_hs : s.size ≤ maxLen) (hk : p.size + v.size + s.size ≤ 1048576) :
    Calls Try.prog 15 #[.string p, .string v, .string s] w fun e w' => e = .returned (.bool true) ∧ Below w.heap.size w w' := by
  have b1 : p.size < 2147483648 := by omega
  have b2 : v.size < 2147483648 := by omega
  have b3 : s.size < 2147483648 := by omega
  by_cases h0 : p.size = 0
  · rw [emptyB p h0]
    go_enter Try.func15, Try.ntmps15
    go_wp2
    go_ret
    exact ⟨rfl, Below.refl _ _⟩
  have h1 : 1 ≤ p.size := by omega
  have hne := neB (c := p) h1
  have HI := fun W => Lib.hid (SpIndex s p W (by omega) (by omega))
  have hIm := fun (A : Value) (u : ByteArray) (W : World) (hA : StrsAt W A [p, v]) (hu : u.size ≤ 2097152) => impOne p v h1 (by omega) (by omega) A u W hA hu
  have hT : ∀ (A : Value) (u : ByteArray) (W : World), StrsAt W A [p, v] → u.size ≤ 2097152 → Calls Try.prog 25 #[A, .string u] W (SomeS (sgl p v u) W) := fun A u W hA hu => by
    rw [← one_sgl p v u h1]
    exact rpText A u _ W (hIm A u W hA hu)
  have hE : ∀ (A : Value) (W : World), StrsAt W A [p, v] → Calls Try.prog 23 #[A, .string s, .string (sgl p v s)] W (RpIsR true W) := fun A W hA => by
    have := rpIs A s (sgl p v s) _ W (hIm A s W hA (by omega))
    rw [← one_sgl p v s h1] at this ⊢
    simpa [one1] using this
  have HB1 : Hid (Below w.heap.size w (w.alloc (.cells #[.string p, .string v] 9))) := Lib.hid ((Below.refl _ w).alloc (Nat.le_refl _) _)
  have HS1 := Lib.hid (pv_at p v w)
  rcases index_spec s.data.toList p.data.toList with ⟨hi, _⟩ | ⟨k, hi, hr, ho, _⟩
  · have HS := Lib.hid (sgl_none p v s hi)
    rw [HS.out] at hE
    have HE := Lib.hid hE
    clear hE hT hIm
    rw [hi] at HI
    go_enter Try.func15, Try.ntmps15
    go_wp2_with (first | (go_at_call 27; (with_reducible refine (HI _).out.mono ?_); rintro e w1 ⟨rfl, rfl⟩) | (go_at_call 23; (with_reducible refine (HE.out _ _ HS1.out).mono ?_); rintro e w2 ⟨rfl, hB⟩; have HB := Lib.hid hB; clear hB))
    go_ret
    exact ⟨rfl, HB1.out.trans (HB.out.mono HB1.out.size)⟩
  · have hlen : k + p.size ≤ s.size := ((occ_iff s p k (by omega)).1 ho).1
    have HS := sgl_some p v s h1 k hi
    have hYs := sgl_size p v (s.extract (k + p.size) s.size) h1 (by rw [ByteArray.size_extract]; omega)
    have hrest : (s.extract (k + p.size) s.size).size ≤ 2097152 := by rw [ByteArray.size_extract]; omega
    rw [hi] at HI
    have hY1 := fun A W hA => hT A (s.extract (k + p.size) s.size) W hA hrest
    obtain ⟨Y, hY⟩ : ∃ Y, Y = sgl p v (s.extract (k + p.size) s.size) := ⟨_, rfl⟩
    rw [← hY] at HS hYs hY1
    rw [HS] at hE
    have HE := Lib.hid hE
    have HT := Lib.hid hY1
    clear hE hT hIm hY hY1 HS hrest hi
    have c1 : (0 : Int) ≤ (k : Int) := by omega
    have c2 : (k : Int) ≤ (s.size : Int) := by omega
    have c3 : (k : Int) + (p.size : Int) ≤ (s.size : Int) := by omega
    have c4 : ¬ ((k : Int) < 0) := by omega
    go_enter Try.func15, Try.ntmps15
    go_wp2_with (go_at_call 27; (with_reducible refine (HI _).out.mono ?_); rintro e w1 ⟨rfl, rfl⟩)
    have d0 : min k s.size + v.size + Y.size ≤ 4611686018427387904 := by omega
    have d1 : (0 : Int) ≤ (k : Int) + (p.size : Int) := by omega
    have d2 : ((k : Int) + (p.size : Int)).toNat = k + p.size := by omega
    have d3 : IntKind.i64.wrap ((k : Int) + (p.size : Int)) = (k : Int) + (p.size : Int) := IntWalk.i64_in _ (by omega)
    generalize w.alloc (.cells #[.string p, .string v] 9) = W1 at HS1 HB1 ⊢
    generalize (Value.slice (some ⟨w.heap.size, 0, none⟩) 2 2) = pv at HS1 ⊢
    go_region_with (first | (go_at_call 25; (with_reducible refine (HT.out _ _ (HS1.out.below ((Below.refl _ _).drew))).mono ?_); rintro e w2 ⟨rfl, hB⟩; have HB2 := Lib.hid hB; clear hB) | (go_at_call 23; (with_reducible refine (HE.out _ _ ((HS1.out.below ((Below.refl _ _).drew)).below HB2.out)).mono ?_); rintro e w3 ⟨rfl, hB⟩; have HB3 := Lib.hid hB; clear hB))
    go_wp2_with fail
    all_goals
      go_ret
      exact ⟨rfl, HB1.out.trans ((((Below.refl W1.heap.size W1).drew).trans (HB2.out.trans (HB3.out.mono HB2.out.size))).mono HB1.out.size)⟩
end Go.Proofs.Ytnigbgablginnaa

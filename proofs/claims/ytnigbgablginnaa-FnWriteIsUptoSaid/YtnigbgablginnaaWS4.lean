/- WritW WWriteIs (merged by merge.py). -/
import Derived.Test.YtnigbgablginnaaWS3
import Derived.Test.YtnigbgablginnaaSRp
/- impl.written, impl.Write. -/
set_option linter.unusedVariables false
namespace Go.Proofs.Ytnigbgablginnaa
open Go.RowKit Go.Lib

/-- What is written. -/
def WrittenOf (out : Bs) : Value := .agg #[.string ⟨out.toArray⟩, .int .i64 out.length, .bool false]
def WritR (out : Bs) (w : World) (e : Ending) (w' : World) : Prop := e = .returned (WrittenOf out) ∧ Below w.heap.size w w'
/-- A sink just made, in block Bf. -/
theorem snk_new (w : World) : (w.alloc (.cells #[.slice none 0 0, .bool false, .int .i64 0] 58)).heap[w.heap.size]? = some (.cells #[.slice none 0 0, .bool false, .int .i64 0] 58 (0, 0)) := heap_alloc_new w _
theorem snk_at {w : World} {Bf base : Nat} (h : w.heap[Bf]? = some (.cells #[.slice none 0 0, .bool false, .int .i64 0] 58 (0, 0))) (hb : Bf < base) : SnkAt w base Bf [] :=
  ⟨⟨_, by rw [cell_of_row _ _ 0 _ _ _ h]; rfl, World.ownsRow_nil _ _ _ _, rfl⟩, by rw [cell_of_row _ _ 1 _ _ _ h]; rfl, fun o => frozen_of_row _ _ o _ _ h, hb⟩
set_option maxRecDepth 100000 in
set_option maxHeartbeats 2000000 in
theorem written {xs : List ByteArray} (h : Few xs) (v : Value) (s : ByteArray) (Bf : Nat) (w : World) (hv : StrsAt w v xs) (hs : s.size ≤ 2097152) (hB : w.heap[Bf]? = some (.cells #[.slice none 0 0, .bool false, .int .i64 0] 58 (0, 0))) :
    Calls Try.prog 47 #[v, .string s, at0 Bf] w (fun e w' => e = .returned (WrittenOf (repl (prs xs) s.data.toList true)) ∧ ∀ B, B ≤ Bf → Below B w w') := by
  have hl := few_len h s.data.toList (by rw [← Lib.size_eq]; exact hs)
  obtain ⟨he, hx, hz⟩ := h
  rw [← prs_up] at hl ⊢
  have hp := pairsOf_up xs he
  have hBl : Bf < w.heap.size := by
    rcases Nat.lt_or_ge Bf w.heap.size with h | h
    · exact h
    · rw [Array.getElem?_eq_none h] at hB; cases hB
  have hb1 : Below w.heap.size w (w.alloc (.cells #[.string ⟨#[]⟩, .int .i64 0, .bool false] 39)) := (Below.refl _ w).alloc (Nat.le_refl _) _
  have hr1 := heap_alloc_new w (.cells #[.string ⟨#[]⟩, .int .i64 0, .bool false] 39)
  have hs1 : (w.alloc (.cells #[.string ⟨#[]⟩, .int .i64 0, .bool false] 39)).heap.size = w.heap.size + 1 := by simp
  have HM : Hid (Calls Try.prog 42 #[v] (w.alloc (.cells #[.string ⟨#[]⟩, .int .i64 0, .bool false] 39)) (fun e w1 => ∃ R, e = .returned (.tuple #[at0 R, .bool true]) ∧ RepFrom w1 (w.heap.size + 1) R (pairUp xs) xs.length ∧ Below w.heap.size w w1 ∧ w1.heap[w.heap.size]? = some (.cells #[.string ⟨#[]⟩, .int .i64 0, .bool false] 39 (0, 0)) ∧ w.heap.size < w1.heap.size)) := Lib.hid ((madeF xs (pairUp xs) v _ (hv.below hb1) hp hx (fun x hx' => by have := hz x hx'; omega)).mono (by
    rintro e w1 ⟨R, rfl, hR, hb⟩
    rw [hs1] at hR hb
    exact ⟨R, rfl, hR, hb1.trans (hb.mono (by omega)), (hb.block _ (by omega)).trans hr1, by have := hb.size; rw [hs1] at this; omega⟩))
  have HW := Lib.hid (fun (w1 : World) (R : Nat) (hR : RepFrom w1 (w.heap.size + 1) R (pairUp xs) xs.length) (hb : Below w.heap.size w w1) => repW_any hR (by omega) (by have := hp.1; omega) (fun q hq => ⟨hz _ (pairUp_mem he hq).2.1, hz _ (pairUp_mem he hq).2.2⟩) s hs (Nat.le_trans hl (by decide)) (snk_at ((hb.block Bf hBl).trans hB) (Nat.lt_of_lt_of_le hBl hb.size)))
  generalize repl ((pairUp xs).map tb) s.data.toList true = out at HW ⊢
  clear hv hp hz hl he hb1 hr1 hs1
  go_enter Try.func47, Try.ntmps47
  go_wp2_with (first | (go_at_call 42; (with_reducible refine HM.out.mono ?_); rintro e w1 ⟨R, rfl, hR, hb, hr, hlw⟩; have HC := Lib.hid (HW.out w1 R hR hb); have HB1 := Lib.hid hb; have HRR := Lib.hid hr; clear hR hb hr) | (go_at_call 55; (with_reducible refine HC.out.mono ?_); rintro e w2 ⟨rfl, hA, hE⟩; have HA := Lib.hid hA; have HE := Lib.hid hE; clear hA hE))
  obtain ⟨x, k0, hr, _⟩ := HA.out.c
  have hcv : (convert 41 9 x).run Try.prog w2.drew = .ok (.string ⟨out.toArray⟩) w2.drew := conv_own (w := w2.drew) (base := w1.heap.size) hr
  have hrow : w2.heap[w.heap.size]? = some (.cells #[.string ⟨#[]⟩, .int .i64 0, .bool false] 39 (0, 0)) := (HE.out.block _ hlw (by omega)).trans HRR.out
  have r0 : w2.cell? ⟨w.heap.size, 0, none⟩ = some (.string ⟨#[]⟩) := by rw [cell_of_row _ _ 0 _ _ _ hrow]; rfl
  have r1 : w2.cell? ⟨w.heap.size, 1, none⟩ = some (.int .i64 0) := by rw [cell_of_row _ _ 1 _ _ _ hrow]; rfl
  have r2 : w2.cell? ⟨w.heap.size, 2, none⟩ = some (.bool false) := by rw [cell_of_row _ _ 2 _ _ _ hrow]; rfl
  have f0 := frozen_of_row w2 _ 0 _ _ hrow
  have f1 := frozen_of_row w2 _ 1 _ _ hrow
  have f2 := frozen_of_row w2 _ 2 _ _ hrow
  have hl2 : w.heap.size < w2.heap.size := Nat.lt_of_lt_of_le hlw HE.out.size
  clear hr hrow
  go_region
  go_wp2_with fail
  refine bodyPost_ret (v := WrittenOf out) (by simp [WrittenOf, results, Try.results47, go_sem, r0, r1, r2]) rfl ⟨rfl, fun B hB' => ?_⟩
  have hBw : B ≤ w.heap.size := by omega
  exact (((((HB1.out.mono hBw).trans (HE.out.below hB' (by omega))).setCell (p := ⟨w.heap.size, 0, none⟩) hBw _).setCell (p := ⟨w.heap.size, 1, none⟩) hBw _).setCell (p := ⟨w.heap.size, 2, none⟩) hBw _).drew
set_option maxRecDepth 100000 in
set_option maxHeartbeats 2000000 in
theorem impWrite {xs : List ByteArray} (h : Few xs) (v : Value) (s : ByteArray) (w : World) (hv : StrsAt w v xs) (hs : s.size ≤ 2097152) :
    Calls Try.prog 34 #[v, .string s] w (WritR (repl (prs xs) s.data.toList true) w) := by
  have hb1 : Below w.heap.size w (w.alloc (.cells #[.string ⟨#[]⟩, .int .i64 0, .bool false] 39)) := (Below.refl _ w).alloc (Nat.le_refl _) _
  have hr1 := heap_alloc_new w (.cells #[.string ⟨#[]⟩, .int .i64 0, .bool false] 39)
  have hb2 : Below (w.heap.size + 1) (w.alloc (.cells #[.string ⟨#[]⟩, .int .i64 0, .bool false] 39)) ((w.alloc (.cells #[.string ⟨#[]⟩, .int .i64 0, .bool false] 39)).alloc (.cells #[.slice none 0 0, .bool false, .int .i64 0] 58)) := (Below.refl _ _).alloc (by simp) _
  have hr2 := heap_alloc_new (w.alloc (.cells #[.string ⟨#[]⟩, .int .i64 0, .bool false] 39)) (.cells #[.slice none 0 0, .bool false, .int .i64 0] 58)
  rw [show (w.alloc (.cells #[.string ⟨#[]⟩, .int .i64 0, .bool false] 39)).heap.size = w.heap.size + 1 by simp] at hr2
  have hb12 : Below w.heap.size w ((w.alloc (.cells #[.string ⟨#[]⟩, .int .i64 0, .bool false] 39)).alloc (.cells #[.slice none 0 0, .bool false, .int .i64 0] 58)) := hb1.trans (hb2.mono (by omega))
  have hW := written h v s (w.heap.size + 1) _ (hv.below hb12) hs hr2
  have hr3 := (hb2.block w.heap.size (by omega)).trans hr1
  have hz : w.heap.size + 1 < ((w.alloc (.cells #[.string ⟨#[]⟩, .int .i64 0, .bool false] 39)).alloc (.cells #[.slice none 0 0, .bool false, .int .i64 0] 58)).heap.size := by simp
  have HB12 := Lib.hid hb12
  have HR3 := Lib.hid hr3
  have HW := Lib.hid hW
  have HZ := Lib.hid hz
  clear hb1 hr1 hb2 hr2 hb12 hW hr3 h hv hz
  generalize repl (prs xs) s.data.toList true = out at HW ⊢
  go_enter Try.func34, Try.ntmps34
  go_wp2_with fail
  refine HW.out.mono ?_
  rintro e w2 ⟨rfl, hb⟩
  have hrow : w2.heap[w.heap.size]? = some (.cells #[.string ⟨#[]⟩, .int .i64 0, .bool false] 39 (0, 0)) := ((hb (w.heap.size + 1) (Nat.le_refl _)).block w.heap.size (by omega)).trans HR3.out
  have r0 : w2.cell? ⟨w.heap.size, 0, none⟩ = some (.string ⟨#[]⟩) := by rw [cell_of_row _ _ 0 _ _ _ hrow]; rfl
  have r1 : w2.cell? ⟨w.heap.size, 1, none⟩ = some (.int .i64 0) := by rw [cell_of_row _ _ 1 _ _ _ hrow]; rfl
  have r2 : w2.cell? ⟨w.heap.size, 2, none⟩ = some (.bool false) := by rw [cell_of_row _ _ 2 _ _ _ hrow]; rfl
  have f0 := frozen_of_row w2 _ 0 _ _ hrow
  have f1 := frozen_of_row w2 _ 1 _ _ hrow
  have f2 := frozen_of_row w2 _ 2 _ _ hrow
  have hBb := hb w.heap.size (by omega)
  have hl2 : w.heap.size < w2.heap.size := by have := (hb (w.heap.size + 1) (Nat.le_refl _)).size; have := HZ.out; omega
  have HBb := Lib.hid hBb
  unfold WrittenOf
  clear hb hrow hBb
  go_wp2_with fail
  refine bodyPost_ret (v := WrittenOf out) (by simp [WrittenOf, results, Try.results34, go_sem, r0, r1, r2]) rfl ⟨rfl, ?_⟩
  exact (((HB12.out.trans HBb.out).setCell (p := ⟨w.heap.size, 0, none⟩) (Nat.le_refl _) _).setCell (p := ⟨w.heap.size, 1, none⟩) (Nat.le_refl _) _).setCell (p := ⟨w.heap.size, 2, none⟩) (Nat.le_refl _) _
end Go.Proofs.Ytnigbgablginnaa

/- The walk of FnWriteIs. -/
set_option linter.unusedVariables false
namespace Go.Proofs.Ytnigbgablginnaa
open Go.RowKit Go.Lib

set_option maxRecDepth 100000 in
set_option maxHeartbeats 4000000 in
theorem walk_FnWriteIs (v : Value) (xs : List ByteArray) (s : ByteArray) (w : World) (hv : StrsAt w v xs) (hz : ∀ x ∈ xs, x.size ≤ maxLen) (hl : xs.length ≤ maxLen) (_hs : s.size ≤ maxLen) (hb : bulkS xs + s.size ≤ 1048576) :
    Calls Try.prog 9 #[v, .string s] w fun e w' => e = .returned (.bool true) ∧ Below w.heap.size w w' := by
  have HFi := Lib.hid (front hv hl (by omega))
  have hss : s.size ≤ 1048576 := by omega
  have HV := Lib.hid hv
  by_cases he : xs.length % 2 = 0
  · have HE := Lib.hid (front_even hv hl true (by simp [he]))
    have hfew := front_few he (by omega : bulkS xs ≤ 1048576)
    have HSo := Lib.hid (Solid xs v w hv hfew.2.1)
    by_cases hso : solidB (oldsOf xs) = true
    · rw [hso] at HSo
      have hlen := few_len hfew s.data.toList (by rw [← Lib.size_eq]; omega)
      have HRp := Lib.hid (fun W hW => Replaced hfew v s W hW (by omega))
      have HWr := Lib.hid (fun W hW => impWrite hfew v s W hW (by omega))
      generalize repl (prs xs) s.data.toList true = out at HRp HWr hlen
      clear hv hz hl _hs hb he hfew hso
      go_enter Try.func9, Try.ntmps9
      go_wp2_with (first | (go_at_call 18; (with_reducible refine HFi.out.mono ?_); rintro e w' ⟨rfl, rfl⟩) | (go_at_call 19; (with_reducible refine HE.out.mono ?_); rintro e w' ⟨rfl, rfl⟩) | (go_at_call 20; (with_reducible refine HSo.out.mono ?_); rintro e w1 ⟨rfl, hB⟩; have HB1 := Lib.hid hB; have HC1 := Lib.hid (HRp.out w1 (HV.out.below hB)); clear hB) | (go_at_call 33; (with_reducible refine HC1.out.mono ?_); rintro e w3 ⟨rfl, hB⟩; have HB3 := Lib.hid (HB1.out.trans (hB.mono HB1.out.size)); have HC2 := Lib.hid (HWr.out w3 (HV.out.below HB3.out)); clear hB HC1) | (go_at_call 34; (with_reducible refine HC2.out.mono ?_); rintro e w5 ⟨rfl, hB⟩; have HB5 := Lib.hid (HB3.out.trans (hB.mono HB3.out.size)); clear hB HC2; unfold WrittenOf))
      go_ret
      exact ⟨rfl, HB5.out.alloc HB5.out.size _⟩
    · rw [Bool.not_eq_true] at hso
      rw [hso] at HSo
      clear hv hz hl _hs hb he hfew hso
      go_enter Try.func9, Try.ntmps9
      go_wp2_with (first | (go_at_call 18; (with_reducible refine HFi.out.mono ?_); rintro e w' ⟨rfl, rfl⟩) | (go_at_call 19; (with_reducible refine HE.out.mono ?_); rintro e w' ⟨rfl, rfl⟩) | (go_at_call 20; (with_reducible refine HSo.out.mono ?_); rintro e w1 ⟨rfl, hB⟩; have HB1 := Lib.hid hB; clear hB))
      go_ret
      exact ⟨rfl, HB1.out⟩
  · have HE := Lib.hid (front_even hv hl false (by simp [he]))
    clear hv hz hl _hs hb he
    go_enter Try.func9, Try.ntmps9
    go_wp2_with (first | (go_at_call 18; (with_reducible refine HFi.out.mono ?_); rintro e w' ⟨rfl, rfl⟩) | (go_at_call 19; (with_reducible refine HE.out.mono ?_); rintro e w' ⟨rfl, rfl⟩))
    go_ret
    exact ⟨rfl, Below.refl _ _⟩
end Go.Proofs.Ytnigbgablginnaa

/- (*genericReplacer).Replace. -/
import Derived.Test.YtnigbgablginnaaGenW
import Derived.Test.YtnigbgablginnaaRepS
import Derived.Laws.MakeOwn
set_option linter.unusedVariables false
namespace Go.Proofs.Ytnigbgablginnaa
open Go.RowKit Go.Lib

theorem conv_own2 {w : World} {base : Nat} {v : Value} {out : Bs} (h : w.ownsRow base 5 1 v out.length (Lib.byteCells out)) : (convert 82 9 v).run Try.prog w = .ok (.string ⟨out.toArray⟩) w := by
  rcases h.2 with ⟨rfl, h0⟩ | ⟨g, cap, cur, rfl, hg, hh, hc, _⟩
  · obtain rfl : out = [] := List.eq_nil_of_length_eq_zero h0
    simp [convert, run_underlying Try.underlying82, run_underlying Try.underlying9, run_underlying Try.underlying5, Conv.bytesToString]
    rfl
  · have hby : Lib.Bytes w g 0 ⟨out.toArray⟩ := fun i hi => by
      have hi' : i < out.length := hi
      have := h.cells (g := g) rfl i (.int .u8 (out[i].toNat : Int)) (by rw [Lib.byteCells, List.getElem?_map, List.getElem?_eq_getElem hi']; rfl)
      rw [Addr.add_lit] at this
      rw [Nat.zero_add]
      rw [Nat.zero_add] at this
      rw [this]
      rfl
    exact Lib.run_convert_whole (P := Try.prog) w 82 5 9 Try.underlying82 Try.underlying5 Try.underlying9 g 0 ⟨out.toArray⟩ hby cap
set_option maxRecDepth 100000 in
set_option maxHeartbeats 4000000 in
theorem genRep (g base L N : Nat) (qs : List BB) (m : UInt8 → Nat) (T : Tr) (s : ByteArray) (w : World) (hG : GenOk w g base qs L m N T) (hL : 2 * qs.length ≤ L) (hs : s.size < 140737488355328) (hz : (repl (qs.map tb) s.data.toList true).length ≤ 140737488355328) :
    Calls Try.prog 49 #[at0 g, .string s] w (Rpd (repl (qs.map tb) s.data.toList true) w) := by
  obtain ⟨i0, hi, hz0, hz1, hz2⟩ := info_parts u8Info2
  obtain ⟨w1, hmk, hown, hgrow⟩ := run_make_own (P := Try.prog) w w.heap.size 82 5 i0 (.int .u8 0) 1 Try.underlying82 hi hz0 hz1 .i64 .i64 s.size (by rw [hz2]; omega) (by unfold maxLen; omega) (Nat.le_refl _)
  have hB1 : Below w.heap.size w w1 := (Below.refl _ w).grown hgrow (Nat.le_refl _) (fun j ej => by cases ej)
  have hB2 : Below w.heap.size w (w1.alloc (.cells #[.slice (some ⟨w.heap.size, 0, none⟩) 0 s.size] 82)) := hB1.alloc hB1.size _
  have hrow := heap_alloc_new w1 (.cells #[.slice (some ⟨w.heap.size, 0, none⟩) 0 s.size] 82)
  have hA : AswAt (w1.alloc (.cells #[.slice (some ⟨w.heap.size, 0, none⟩) 0 s.size] 82)) w.heap.size w1.heap.size [] := by
    refine ⟨⟨.slice (some ⟨w.heap.size, 0, none⟩) 0 s.size, by rw [cell_of_row _ _ 0 _ _ _ hrow]; rfl, hown.alloc _, rfl⟩, fun o => frozen_of_row _ _ o _ _ hrow, ?_, hB1.size⟩
    unfold World.shape?
    rw [hrow]
    exact ⟨_, rfl⟩
  have HW : Hid (Calls Try.prog 57 #[at0 g, .iface 83 (.pointer (some ⟨w1.heap.size, 0, none⟩)), .string s] (w1.alloc (.cells #[.slice (some ⟨w.heap.size, 0, none⟩) 0 s.size] 82)) (GwR w.heap.size w1.heap.size (repl (qs.map tb) s.data.toList true) w)) := Lib.hid (genWrite g base L N w1.heap.size qs m T s w _ hG hL hs hB2 hA hz)
  clear hown hgrow hB1 hB2 hrow hA hG hL hz hi hz0 hz1 hz2
  go_enter Try.func49, Try.ntmps49
  go_wp2_with (go_at_call 57; (with_reducible refine HW.out.mono ?_); rintro e w2 ⟨rfl, hA, hB⟩; obtain ⟨v, cv, hr, _⟩ := hA.c; have hcv := conv_own2 hr; have HB := Lib.hid hB; clear hA hB hr)
  go_ret
  exact ⟨rfl, HB.out⟩
theorem rep_kind_gen {w : World} {R : Nat} {qs : List BB} {L : Nat} (h : RepOk w R qs L) (hns : ¬ isSingle qs) (ho : ¬ oldOne qs) (hL : 2 * qs.length ≤ L) (s : ByteArray) (hs : s.size < 140737488355328) (hz : (repl (qs.map tb) s.data.toList true).length ≤ 140737488355328) :
    Calls Try.prog 43 #[at0 R, .string s] w (Rpd (repl (qs.map tb) s.data.toList true) w) := by
  obtain ⟨v, base, hc, hb, _⟩ := h
  cases hb with
  | single Q F G p v S hq hp h hb => exact absurd ⟨p, v, hq, hp⟩ hns
  | bytes B Rf hs' ho' hn' hT hR hb => exact absurd ho' ho
  | strs B Lb hs' ho' hn' h hb => exact absurd ho' ho
  | gen g m N T hs' ho' h => exact rep_gen R g _ s w hc (genRep g base L N qs m T s w h hL hs hz)
/-- Whatever the pairs. -/
theorem rep_any {w : World} {R : Nat} {qs : List BB} {L : Nat} (h : RepOk w R qs L) (hL : 2 * qs.length ≤ L) (hq : ∀ q ∈ qs, q.1.size ≤ 2097152 ∧ q.2.size ≤ 2097152) (s : ByteArray) (hs : s.size ≤ 2097152) (hz : (repl (qs.map tb) s.data.toList true).length ≤ 140737488355328) :
    Calls Try.prog 43 #[at0 R, .string s] w (Rpd (repl (qs.map tb) s.data.toList true) w) := by
  by_cases ho : oldOne qs
  · exact rep_kind_1 h ho (fun q hm => (hq q hm).2) s hs
  · by_cases hns : isSingle qs
    · obtain ⟨p, v, rfl, hp⟩ := hns
      have := hq (p, v) (by simp)
      exact rep_kind_single h hp this.1 this.2 s hs
    · exact rep_kind_gen h hns ho hL s (by omega) hz
end Go.Proofs.Ytnigbgablginnaa

/- impl.made: the replacer, or none. -/
import Derived.Test.YtnigbgablginnaaBytR
import Derived.Defers
import Derived.Recover
import Derived.Laws.Pointers
set_option linter.unusedVariables false
namespace Go.Proofs.Ytnigbgablginnaa
open Go.RowKit Go.Lib

theorem catch_idle (a b : Addr) (w : World) :
    CallsD Try.prog 52 #[.pointer (some a), .pointer (some b)] .returning w fun e u' w' => e = .returned (.tuple #[]) ∧ u' = .returning ∧ w' = w := by
  refine callsD_of_wpS Try.func52 rfl fun c₀ cs hu => ?_
  apply wpS_seq
  apply wpS_region
  simp [wpOpsS, go_sem, recoverD, hu, Try.ntmps52, Exit.thenS]
  refine wpS_cond (t := false) (by simp [Act.eval, Array.replicate]) ?_
  simp only [Bool.false_eq_true, if_false]
  refine wpS_of_wp (wp_skip ?_)
  cases c₀
  simp_all [bodyPostS, results, Try.results52]

def MadeR (qs : List BB) (L : Nat) (w : World) (e : Ending) (w' : World) : Prop := ∃ R, e = .returned (.tuple #[at0 R, .bool true]) ∧ RepOk w' R qs L ∧ Below w.heap.size w w'
set_option maxRecDepth 100000 in
set_option maxHeartbeats 2000000 in
theorem made (xs : List ByteArray) (qs : List BB) (v : Value) (w : World) (hv : StrsAt w v xs) (hp : PairsOf xs qs) (hx : xs.length ≤ 2147483647) (hs : ∀ x ∈ xs, x.size ≤ 2147483647) :
    Calls Try.prog 42 #[v] w (MadeR qs xs.length w) := by
  have hmf : ∀ (fn : Fn) (first cap : Array Value) (w : World), (Instr.makeFunc fn first cap).run Try.prog w = .ok (.func fn first cap) w := fun _ _ _ _ => rfl
  have hb0 : Below w.heap.size w (w.alloc (.cells #[.pointer none] 50)) := (Below.refl _ w).alloc (Nat.le_refl _) _
  have hb1 : Below w.heap.size w ((w.alloc (.cells #[.pointer none] 50)).alloc (.cells #[.bool false] 4)) := hb0.alloc (by simp) _
  have hC : Calls Try.prog 53 #[v] ((w.alloc (.cells #[.pointer none] 50)).alloc (.cells #[.bool false] 4)) (fun e w1 => ∃ R, e = .returned (at0 R) ∧ RepFrom w1 (w.heap.size + 2) R qs xs.length ∧ Below w.heap.size w w1 ∧ w1.cell? ⟨w.heap.size, 0, none⟩ = some (.pointer none) ∧ w1.cell? ⟨w.heap.size + 1, 0, none⟩ = some (.bool false) ∧ w1.frozen? ⟨w.heap.size, 0, none⟩ = false ∧ w1.frozen? ⟨w.heap.size + 1, 0, none⟩ = false) := by
    have hr0 := heap_alloc_new w (.cells #[.pointer none] 50)
    have hr1 := heap_alloc_new (w.alloc (.cells #[.pointer none] 50)) (.cells #[.bool false] 4)
    have hr0' := (Below.refl _ (w.alloc (.cells #[.pointer none] 50))).alloc (Nat.le_refl _) (.cells #[.bool false] 4)
    generalize hW1 : w.alloc (.cells #[.pointer none] 50) = W1 at hb0 hb1 hr0 hr1 hr0' ⊢
    have hs1 : W1.heap.size = w.heap.size + 1 := by rw [← hW1]; simp
    have hs2 : (W1.alloc (.cells #[.bool false] 4)).heap.size = w.heap.size + 2 := by simp [hs1]
    generalize hW2 : W1.alloc (.cells #[.bool false] 4) = W2 at hb1 hr1 hr0' hs2 ⊢
    refine (newRepF xs qs v W2 (hv.below hb1) hp hx hs).mono ?_
    rintro e w1 ⟨R, rfl, hR, hB⟩
    rw [hs2] at hR hB
    have e0 : w1.heap[w.heap.size]? = some _ := (hB.block _ (by omega)).trans ((hr0'.block _ (by omega)).trans hr0)
    have e1 : w1.heap[w.heap.size + 1]? = some _ := (hB.block _ (by omega)).trans (hs1 ▸ hr1)
    exact ⟨R, rfl, hR, hb1.trans (hB.mono (by omega)), by rw [cell_of_row _ _ 0 _ _ _ e0]; rfl, by rw [cell_of_row _ _ 0 _ _ _ e1]; rfl, frozen_of_row _ _ 0 _ _ e0, frozen_of_row _ _ 0 _ _ e1⟩
  have HC := Lib.hid hC
  clear hv hp hx hs hb0 hb1 hC
  go_enter_defers Try.func42, Try.ntmps42
  go_wp2_with (go_at_call 53; (with_reducible refine HC.out.mono ?_); rintro e w1 ⟨R, rfl, hR, hB, k0, k1, f0, f1⟩; have HR := Lib.hid hR; have HB := Lib.hid hB; clear hR hB)
  have hl1 : w.heap.size + 1 < w1.heap.size := World.block_lt_of_cell? _ _ k1
  refine leaves_cons (f := 52) (args := #[.pointer (some ⟨w.heap.size, 0, none⟩), .pointer (some ⟨w.heap.size + 1, 0, none⟩)]) (by simp) (by simp [go_sem]) ?_
  refine (catch_idle ⟨w.heap.size, 0, none⟩ ⟨w.heap.size + 1, 0, none⟩ _).mono ?_
  rintro e u' w'' ⟨rfl, rfl, rfl⟩
  have c1 : ((w1.setCell ⟨w.heap.size, 0, none⟩ (.pointer (some ⟨R, 0, none⟩))).setCell ⟨w.heap.size + 1, 0, none⟩ (.bool true)).cell? ⟨w.heap.size + 1, 0, none⟩ = some (.bool true) := World.cell?_setCell_same _ _ _ ((World.cell?_setCell_other _ _ _ _ (by simp)).trans k1)
  have c0 : ((w1.setCell ⟨w.heap.size, 0, none⟩ (.pointer (some ⟨R, 0, none⟩))).setCell ⟨w.heap.size + 1, 0, none⟩ (.bool true)).cell? ⟨w.heap.size, 0, none⟩ = some (at0 R) := (World.cell?_setCell_other _ _ _ _ (by simp)).trans (World.cell?_setCell_same _ _ _ k0)
  have hfin : MadeR qs xs.length w (.returned (.tuple #[at0 R, .bool true])) ((w1.setCell ⟨w.heap.size, 0, none⟩ (.pointer (some ⟨R, 0, none⟩))).setCell ⟨w.heap.size + 1, 0, none⟩ (.bool true)) :=
    ⟨R, rfl, ((HR.out.set _ _ (by simp)).set _ _ (by simp)).ok, (HB.out.setCell (Nat.le_refl _) _).setCell (by simp) _⟩
  generalize (w1.setCell ⟨w.heap.size, 0, none⟩ (.pointer (some ⟨R, 0, none⟩))).setCell ⟨w.heap.size + 1, 0, none⟩ (.bool true) = W at c1 c0 hfin ⊢
  simp [Leaves, settle, results, Try.results42, go_sem, c0, c1]
  exact hfin
end Go.Proofs.Ytnigbgablginnaa

/- A range over a function whose iterator keeps its state in one cell of its own (a captured variable): the caller's law. -/
import Derived.Test.YtblaldahhhokmaaDoorRows
import Derived.RangeFuncNested
import Derived.RangeFuncBound
import Derived.RangeFuncCalls
import Derived.RangeFuncLeaves
import Derived.RangeFuncBox
import Derived.Maps.AppendAt
import Derived.Shelf.Abstract
import Derived.WalkKit
import Derived.OwnWalkIn
import Derived.TacticsInMore
import Derived.LoopNIn
import Derived.LoopIn
namespace Go.Proofs.YtblaldahhhokmaaDoor
open Go.RowKit
section
variable {F : Fence} {n : Nat} {P : Program}

/-- The iterator's word: with each round going on it hands out just xs; between rounds it writes its own cell at Bs alone. -/
def SeqAll {α : Type} (F : Fence) (n : Nat) (P : Program) (g : Nat) (lb : Array Value) (encs : α → Array Value) (Bs : Nat) (xs : List α) (w : World) : Prop :=
  ∀ (l : Nat) (J : List α → World → Prop) (W : World), W.heap[Bs]? = w.heap[Bs]? →
    (∀ pre W v, J pre W → J pre (W.setCell ⟨Bs, 0, none⟩ v)) → (∀ pre W, J pre W → J pre W.drew) →
    (∀ pre x W1, J pre W1 → pre.length < xs.length → YieldAt F (n - 1) P l (encs x) W1 fun e W' => e = .returned (.bool true) ∧ J (pre ++ [x]) W' ∧ W'.heap[Bs]? = W1.heap[Bs]?) →
    J [] W → CallsIn F n P g (#[.func (.yield l) #[] #[]] ++ lb) W fun e W' => (∃ v, e = .returned v) ∧ J xs W'

/-- How a round's body must end. -/
def goesOn {α : Type} (Bs : Nat) (I : List α → World → Prop) (ys : List α) (W : World) : Exit → Act → World → Prop
  | .normal, _, W' => KeepsOthers W W' ∧ W'.heap[Bs]? = W.heap[Bs]? ∧ I ys W'
  | _, _, _ => False

theorem wpIn_rangeFunc_all {α : Type} {g : Operand} {ps : Array Tmp} {assign body : Code} {Q : Exit → Act → World → Prop} {a : Act} {w : World}
    (hro : F.round = none) (h1 : 1 ≤ n) {gf : Nat} {lb : Array Value} (hg : a.eval g = .func (.func gf) #[] lb) (hFg : F.fn gf) (eg : ∀ args w, (callFunc gf args).run P w = .ok (.enter gf args) w)
    {encs : α → Array Value} {Bs : Nat} {xs : List α} (hseq : SeqAll F (n - 1) P gf lb encs Bs xs w) (hBs : Bs < w.heap.size) (hps : ∀ x, (encs x).size = ps.size)
    (I : List α → World → Prop) (hI : OwnFrom w.heap.size I) (hIs : ∀ pre W v, I pre W → I pre (W.setCell ⟨Bs, 0, none⟩ v)) (hId : ∀ pre W, I pre W → I pre W.drew) (h0 : I [] w) (a₁ : α → Act)
    (hassign : ∀ (l : Nat) (x : α) (W : World) (K : Act → World → Prop), K (a₁ x) W →
      assign.wpIn (F.inRound l) (n - 1 - 1) P (Exit.then K (fun _ _ _ => False)) { tmps := (ps.zip (encs x)).foldl (fun t (p, v) => t.setIfInBounds p v) a.tmps, defers := [] } W)
    (hbody : ∀ (l : Nat) (pre : List α) (x : α) (W : World), I pre W → pre.length < xs.length → body.wpIn (F.inRound l) (n - 1 - 1) P (goesOn Bs I (pre ++ [x]) W) (a₁ x) W)
    (hdone : ∀ (D : Nat) (W : World), w.heap.size ≤ D → I xs W → W.heap[D]? = some (.deferred (some [])) → Q .normal { a with defers := { target := .collected D, args := #[] } :: a.defers } W) :
    (Code.rangeFunc g ps assign body).wpIn F n P Q a w := by
  refine wpIn_rangeFunc ?_
  intro fn hfn
  rw [hro]
  obtain ⟨rec, hrec⟩ : ∃ rec : LoopState → Option Code → Loop, rec = fun st pe => { state := st, pending := pe, fn, tmps := a.tmps, params := ps, assign, body, defers := w.heap.size } := ⟨_, rfl⟩
  obtain ⟨W1, hW1⟩ : ∃ W1, (w.alloc (.deferred (some []))).alloc (.loop (rec .ready none)) = W1 := ⟨_, rfl⟩
  have hL1 : W1.heap[w.heap.size + 1]? = some (.loop (rec .ready none)) := by
    rw [← hW1]; have := World.alloc_heap_new (w.alloc (.deferred (some []))) (.loop (rec .ready none)); rwa [World.size_alloc] at this
  have hK1 : W1.heap[w.heap.size]? = some (.deferred (some [])) := by
    rw [← hW1]; exact (Below.heap_alloc _ _ _ (by simp)).trans (World.alloc_heap_new w _)
  have hI1 : I [] W1 := by rw [← hW1]; exact hI.alloc _ (hI.alloc _ h0)
  have hB1 : W1.heap[Bs]? = w.heap[Bs]? := by
    rw [← hW1]; exact (Below.heap_alloc _ _ _ (by simp; omega)).trans (Below.heap_alloc _ _ _ hBs)
  refine ⟨w.heap.size + 1, [{ target := .collected w.heap.size, args := #[] }], W1, { target := .fn (.func gf) lb, args := #[.func (.yield (w.heap.size + 1)) #[] #[]] }, W1, gf,
    #[.func (.yield (w.heap.size + 1)) #[] #[]] ++ lb, W1, ?_, ?_, ?_, ?_, fun _ => h1, ?_⟩
  · rw [← hW1, hrec]; exact run_enterLoop_outer _ _ _ _ _
  · simp only [resolve, hg]
    simp [go_sem]
  · intro f' hf'; simp [Target.leads] at hf'; subst hf'; exact hFg
  · simp [invoke, go_sem, eg]
  · refine (hseq (w.heap.size + 1)
      (fun pre W => I pre W ∧ W.heap[w.heap.size + 1]? = some (.loop (rec .ready none)) ∧ W.heap[w.heap.size]? = some (.deferred (some [])))
      W1 hB1
      (fun pre W v h => ⟨hIs pre W v h.1, (Below.heap_setCell W ⟨Bs, 0, none⟩ v _ (by show w.heap.size + 1 ≠ Bs; omega)).trans h.2.1, (Below.heap_setCell W ⟨Bs, 0, none⟩ v _ (by show w.heap.size ≠ Bs; omega)).trans h.2.2⟩)
      (fun pre W h => ⟨hId pre W h.1, h.2.1, h.2.2⟩)
      ?_ ⟨hI1, hL1, hK1⟩).mono ?_
    · rintro pre x W ⟨hi, hl, hk⟩ hlen
      have hlt : w.heap.size + 1 < W.heap.size := (Array.getElem?_eq_some_iff.1 hl).1
      have hy := run_yield (P := P) (args := encs x) hl (by rw [hrec]; exact hps x)
      rw [hrec] at hy
      refine ⟨fn, _, assign, body, hy, roundIn_of_wpIn hfn (hassign _ x W _ ⟨_, run_beginRound hl (by rw [hrec]), ?_⟩)⟩
      have hl2 : (W.putObj (w.heap.size + 1) (.loop { rec .ready none with state := .busy })).heap[w.heap.size + 1]? = some (.loop { rec .ready none with state := .busy }) := World.putObj_heap_same hlt
      have hk2 : (W.putObj (w.heap.size + 1) (.loop { rec .ready none with state := .busy })).heap[w.heap.size]? = some (.deferred (some [])) := (World.putObj_heap_other (by omega)).trans hk
      have hb2 : (W.putObj (w.heap.size + 1) (.loop { rec .ready none with state := .busy })).heap[Bs]? = W.heap[Bs]? := World.putObj_heap_other (by omega)
      refine wpIn_mono (hbody _ pre x _ (hI.putObj _ hi (by omega) hl rfl) hlen) ?_
      rintro e a3 W3 hp
      cases e with
      | normal =>
        obtain ⟨hk3, hb3, hi3⟩ := hp
        have hl3 := hk3.same _ _ hl2 rfl
        have hr := run_endRound (P := P) none hl3
        rw [hrec] at hr hl3
        refine ⟨_, _, hr, rfl, ⟨hI.putObj _ hi3 (by omega) hl3 rfl, ?_, ?_⟩, ?_⟩
        · rw [hrec]; exact World.putObj_heap_same (Array.getElem?_eq_some_iff.1 hl3).1
        · exact (World.putObj_heap_other (by omega)).trans (hk3.same _ _ hk2 rfl)
        · exact (World.putObj_heap_other (by omega)).trans (hb3.trans hb2)
      | ret => exact hp.elim
      | exit id => exact hp.elim
      | goto t => exact hp.elim
      | panic ch => exact hp.elim
      | outgrown => exact hp.elim
    · rintro e W2 ⟨⟨v, rfl⟩, hi, hl, hk⟩
      exact ⟨none, _, by have := run_endLoop (P := P) hl (by rw [hrec]; simp); rw [hrec] at this; exact this, hdone _ _ (Nat.le_refl _) (hI.putObj _ hi (by omega) hl rfl) ((World.putObj_heap_other (by omega)).trans hk)⟩
end
end Go.Proofs.YtblaldahhhokmaaDoor

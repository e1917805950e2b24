/- A region that draws its order, by an invariant, where some operations are not wanted. -/
import Derived.Test.YtpaieadnicmplaaDoorInvB
set_option linter.unusedVariables false
namespace Go.Proofs.YtpaieadnicmplaaDoor
open Go.RowKit Go.Lib
section
variable {P : Program} {ops : Array Oper} {Q : Exit → Act → World → Prop}
/-- Done; or not wanted, and what the slot should hold holds of what is laid then. -/
def OpDone2 (P : Program) (ops : Array Oper) (Q : Exit → Act → World → Prop) (φ : SP) (w0 : World) (a : Act) (w : World) (o : Oper) : Prop :=
  OpDone P ops Q φ w0 a w o ∨ (Region.wanted o (yielded ops a.tmps) = false ∧ φ.1 undef w)
/-- Operation k, in whatever order: it is wanted; it leaves what its slot should hold; memory only grows. -/
def StepAt2 (P : Program) (ops : Array Oper) (Q : Exit → Act → World → Prop) (Φ : Nat → SP) (w0 : World) (a0 : Act) (k : Nat) (o : Oper) : Prop :=
  ∀ (a : Act) (w : World), Bl w0 w → a.tmps.size = a0.tmps.size → (∀ s, slotIn ops s = false → a.tmps.getD s undef = a0.tmps.getD s undef) →
    (∀ j s, depB o j = true → dstOf ops j = some s → (Φ j).1 (a.tmps.getD s undef) w) →
    OpDone2 P ops Q (Φ k) w0 a w o

def StepAll2 (P : Program) (ops : Array Oper) (Q : Exit → Act → World → Prop) (Φ : Nat → SP) (w0 : World) (a0 : Act) : Nat → List Oper → Prop
  | _, [] => True
  | k, o :: l => StepAt2 P ops Q Φ w0 a0 k o ∧ StepAll2 P ops Q Φ w0 a0 (k + 1) l

theorem StepAll2.at_ {Φ : Nat → SP} {w0 : World} {a0 : Act} : ∀ {l : List Oper} {k : Nat}, StepAll2 P ops Q Φ w0 a0 k l → ∀ i o, l[i]? = some o → StepAt2 P ops Q Φ w0 a0 (k + i) o
  | [], _, _, i, o, h => by simp at h
  | x :: l, k, h, 0, o, e => by
    simp only [List.getElem?_cons_zero, Option.some.injEq] at e
    subst e; exact h.1
  | x :: l, k, h, i + 1, o, e => by
    have := StepAll2.at_ h.2 i o (by simpa using e)
    rw [show k + (i + 1) = k + 1 + i by omega]; exact this

theorem wp_region_inv2 {id : Nat} {a0 : Act} {w0 : World} (hm : P.follows .mixedOrders = true) (Φ : Nat → SP) (hsh : shapeB ops a0.tmps.size = true)
    (hsteps : StepAll2 P ops Q Φ w0 a0 0 ops.toList)
    (hend : ∀ a w, Bl w0 w → a.defers = a0.defers → a.tmps.size = a0.tmps.size → (∀ s, slotIn ops s = false → a.tmps.getD s undef = a0.tmps.getD s undef) →
      (∀ j s, dstOf ops j = some s → (Φ j).1 (a.tmps.getD s undef) w) → Q .normal a w) :
    (Code.region id ops true).wp P Q a0 w0 := by
  refine wp_region_any hm (wpAny_inv (RegI ops Φ w0 a0) ?_ ?_ _ _ _ _ ?_ (by simp) (by simp))
  · intro listed a w i hI hi
    obtain ⟨h1, h2⟩ := List.mem_filter.1 hi
    have hi' : i < ops.size := by simpa using h1
    obtain ⟨s, hd, hs, _⟩ := shape_dst hsh hi'
    have ho : ops[i]? = some ops[i] := Array.getElem?_eq_getElem hi'
    have hdo : ops[i].dst = some s := by
      have := hd; unfold dstOf at this; rw [ho] at this; exact this
    have hst := StepAll2.at_ hsteps i ops[i] (by rw [Array.getElem?_toList]; exact ho)
    rw [Nat.zero_add] at hst
    have hdeps : ∀ j, depB ops[i] j = true → listed.getD j false = true := by
      intro j hj
      rw [ho] at h2
      simp only [Option.map_some, Option.getD_some, Bool.and_eq_true, Array.all_eq_true] at h2
      unfold depB at hj
      rw [Array.any_eq_true] at hj
      obtain ⟨q, hq, he⟩ := hj
      have h3 := h2.2 q hq
      simp only [Bool.and_eq_true, beq_iff_eq] at he
      rw [he.1, he.2] at h3
      simpa using h3
    rcases hst a w hI.bl hI.size hI.base (fun j t hj ht => hI.done j t (hdeps j hj) ht) with ⟨hw, hwp⟩ | ⟨hw, hv⟩
    · unfold wpOp
      rw [ho]
      simp only [hw, if_true]
      refine .inl (Oper.wp_mono (fun a' w' hh => ?_) hwp)
      obtain ⟨v, rfl, hv, hb, hb0⟩ := hh
      have hput : (a.put ops[i].dst v).tmps = a.tmps.setIfInBounds s v := by rw [hdo]; rfl
      have hsz : s < a.tmps.size := by rw [hI.size]; exact hs
      refine ⟨Below.trans hI.bl hb0, by rw [hdo]; exact hI.defers, by rw [hput]; simpa using hI.size, fun t ht => ?_, fun j t hj ht => ?_⟩
      · rw [hput, getD_set _ _ _ _ hsz, if_neg, hI.base t ht]
        intro e
        subst e
        unfold slotIn at ht
        rw [List.any_eq_false] at ht
        exact ht i (by simpa using hi') (by rw [hd]; simp)
      · rw [hput, getD_set _ _ _ _ hsz]
        by_cases hji : j = i
        · subst hji
          rw [hd] at ht
          cases ht
          rw [if_pos rfl]
          exact hv
        · have hj' : listed.getD j false = true := by
            have e : (listed.setIfInBounds i true).getD j false = listed.getD j false := getD_ne _ _ _ _ _ (Ne.symm hji)
            rw [← e]; exact hj
          have hne : s ≠ t := by
            intro e
            have hjs : j < ops.size := by
              rcases Nat.lt_or_ge j ops.size with h | h
              · exact h
              · unfold dstOf at ht; rw [Array.getElem?_eq_none h] at ht; cases ht
            exact shape_ne hsh hi' hjs (Ne.symm hji) (by rw [hd, ht, e])
          rw [if_neg hne]
          exact (Φ j).2 _ _ _ (hI.done j t hj' ht) hb
    · unfold wpOp
      rw [ho]
      simp only [hw, Bool.false_eq_true, if_false]
      obtain ⟨v, hve⟩ : ∃ v, v = undef := ⟨_, rfl⟩
      rw [← hve] at hv ⊢
      have hb : KC w w := KC.refl _
      have hb0 : Below w0.heap.size w w := Below.refl _ _
      have hput : (a.put ops[i].dst v).tmps = a.tmps.setIfInBounds s v := by rw [hdo]; rfl
      have hsz : s < a.tmps.size := by rw [hI.size]; exact hs
      refine ⟨Below.trans hI.bl hb0, by rw [hdo]; exact hI.defers, by rw [hput]; simpa using hI.size, fun t ht => ?_, fun j t hj ht => ?_⟩
      · rw [hput, getD_set _ _ _ _ hsz, if_neg, hI.base t ht]
        intro e
        subst e
        unfold slotIn at ht
        rw [List.any_eq_false] at ht
        exact ht i (by simpa using hi') (by rw [hd]; simp)
      · rw [hput, getD_set _ _ _ _ hsz]
        by_cases hji : j = i
        · subst hji
          rw [hd] at ht
          cases ht
          rw [if_pos rfl]
          exact hv
        · have hj' : listed.getD j false = true := by
            have e : (listed.setIfInBounds i true).getD j false = listed.getD j false := getD_ne _ _ _ _ _ (Ne.symm hji)
            rw [← e]; exact hj
          have hne : s ≠ t := by
            intro e
            have hjs : j < ops.size := by
              rcases Nat.lt_or_ge j ops.size with h | h
              · exact h
              · unfold dstOf at ht; rw [Array.getElem?_eq_none h] at ht; cases ht
            exact shape_ne hsh hi' hjs (Ne.symm hji) (by rw [hd, ht, e])
          rw [if_neg hne]
          exact (Φ j).2 _ _ _ (hI.done j t hj' ht) hb
  · intro listed a w hI hs hr
    have hall : ∀ n i, i < n → i < ops.size → listed.getD i false = true := by
      intro n
      induction n with
      | zero => intro i h; omega
      | succ n ih =>
        intro i hin hi
        by_cases hlt : i < n
        · exact ih i hlt hi
        · obtain rfl : i = n := by omega
          cases hl : listed.getD i false with
          | true => rfl
          | false =>
            exfalso
            have hmem : i ∈ Region.ready .any ops listed := by
              unfold Region.ready
              refine List.mem_filter.2 ⟨by simpa using hi, ?_⟩
              have hi2 : i < listed.size := by rw [hs]; exact hi
              have hl' : listed.getD i true = false := by
                simp [Array.getD, hi2] at hl ⊢; exact hl
              rw [hl', Array.getElem?_eq_getElem hi]
              simp only [Option.map_some, Option.getD_some, Bool.not_false, Bool.true_and, Array.all_eq_true]
              intro q hq
              have h2 := hsh
              simp only [shapeB, Bool.and_eq_true, List.all_eq_true, List.mem_range] at h2
              have h3 := h2.2 i hi
              rw [Array.getElem?_eq_getElem hi] at h3
              simp only [Option.map_some, Option.getD_some, Array.all_eq_true] at h3
              have h4 := h3 q hq
              cases hb : Region.binds .any (ops[i].after[q]) with
              | false => rfl
              | true =>
                rw [hb] at h4
                have h5 : (ops[i].after[q]).on < i := by simpa using h4
                rw [ih _ h5 (by omega)]; rfl
            rw [hr] at hmem; cases hmem
    refine hend a w hI.bl hI.defers hI.size hI.base (fun j s hd => hI.done j s ?_ hd)
    have hjs : j < ops.size := by
      rcases Nat.lt_or_ge j ops.size with h | h
      · exact h
      · unfold dstOf at hd; rw [Array.getElem?_eq_none h] at hd; cases hd
    exact hall (j + 1) j (by omega) hjs
  · refine ⟨(Bl.refl w0).drew, rfl, rfl, fun _ _ => rfl, fun j s hj _ => ?_⟩
    exfalso
    simp only [Array.getD, Array.size_replicate] at hj
    split at hj
    · simp at hj
    · cases hj

theorem unwanted_some {o : Oper} {g : Nat} {b : Bool} {s : Tmp} {v : Value} (hg : o.guard = some (g, b)) (hd : dstOf ops g = some s) (T : Array Value) (hs : s < T.size) (hT : T.getD s undef = v) (hv : v ≠ .bool b) : Region.wanted o (yielded ops T) = false := by
  unfold Region.wanted yielded
  rw [hg]
  unfold dstOf at hd
  have e : T[s]? = some v := by
    rw [Array.getElem?_eq_getElem hs]
    rw [← hT]; simp [Array.getD, hs]
  simp only [hd, Option.bind_some, e]
  cases v <;> simp_all
end
end Go.Proofs.YtpaieadnicmplaaDoor

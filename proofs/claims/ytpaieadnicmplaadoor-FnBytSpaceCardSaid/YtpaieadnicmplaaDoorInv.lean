/- A region that draws its order, by an invariant: what each operation's slot holds, kept while memory only grows. -/
import Derived.Test.YtpaieadnicmplaaDoorReg
import Derived.Shelf.Abstract
namespace Go.Proofs.YtpaieadnicmplaaDoor
open Go.RowKit Go.Lib

section
variable {P : Program} {ops : Array Oper} {Q : Exit → Act → World → Prop} {md : Region.Mode}

theorem getD_ne {α : Type} (T : Array α) (s t : Nat) (v d : α) (h : s ≠ t) : (T.setIfInBounds s v).getD t d = T.getD t d := by
  rw [Array.getD_eq_getD_getElem?, Array.getD_eq_getD_getElem?, Array.getElem?_setIfInBounds_ne h]

theorem ready_all {listed : Array Bool} (hs : listed.size = ops.size) (hc : listed.toList.count false = 0) : Region.ready md ops listed = [] := by
  unfold Region.ready
  rw [List.filter_eq_nil_iff]
  intro i hi
  have hi' : i < listed.size := by rw [hs]; simpa using hi
  have hm : listed[i] ∈ listed.toList := by simp
  have ht : listed[i] = true := by
    cases h : listed[i] with
    | true => rfl
    | false =>
      rw [h] at hm
      have := List.count_pos_iff.2 hm
      omega
  simp [Array.getD, hi', ht]

theorem wpAny_inv (I : Array Bool → Act → World → Prop)
    (hstep : ∀ listed a w i, I listed a w → i ∈ Region.ready md ops listed → wpOp P ops Q i (fun a' w' => I (listed.setIfInBounds i true) a' w') a w)
    (hend : ∀ listed a w, I listed a w → listed.size = ops.size → Region.ready md ops listed = [] → Q .normal a w) :
    ∀ (fuel : Nat) (listed : Array Bool) (a : Act) (w : World), I listed a w → listed.size = ops.size → listed.toList.count false ≤ fuel → wpAny P md ops Q fuel listed a w
  | 0, listed, a, w, hI, hs, hc => by
    have hr := ready_all (md := md) hs (by omega)
    exact ⟨hr, hend _ _ _ hI hs hr⟩
  | fuel + 1, listed, a, w, hI, hs, hc => by
    refine ⟨fun hr => hend _ _ _ hI hs hr, fun i hi => wpOp_mono (fun a' w' h => ?_) (hstep listed a w i hI hi)⟩
    refine wpAny_inv I hstep hend fuel _ a' w' h (by simpa using hs) ?_
    obtain ⟨h1, h2⟩ := List.mem_filter.1 hi
    have hi' : i < listed.size := by rw [hs]; simpa using h1
    have hf : listed[i] = false := by
      have : (!listed.getD i true) = true := by simp only [Bool.and_eq_true] at h2; exact h2.1
      simpa [Array.getD, hi'] using this
    rw [Array.toList_setIfInBounds, List.count_set (by simpa using hi')]
    have hp : 0 < listed.toList.count false := List.count_pos_iff.2 (by rw [← hf]; simp)
    have e1 : listed.toList[i]'(by simpa using hi') = false := by simpa using hf
    rw [e1]
    simp only [beq_self_eq_true, if_true]
    have e2 : (true == false) = false := rfl
    rw [e2]
    simp only [Bool.false_eq_true, if_false]
    omega
end

/-- Memory has grown; cells and the shapes of blocks are as they were (marks may have turned). -/
structure KC (w w' : World) : Prop where
  size : w.heap.size ≤ w'.heap.size
  cell : ∀ b o, b < w.heap.size → w'.cell? ⟨b, o, none⟩ = w.cell? ⟨b, o, none⟩
  shape : ∀ b, b < w.heap.size → w'.shape? b = w.shape? b
theorem KC.refl (w : World) : KC w w := ⟨Nat.le_refl _, fun _ _ _ => rfl, fun _ _ => rfl⟩
theorem KC.of {w w' : World} (h : Below w.heap.size w w') : KC w w' :=
  ⟨h.size, fun b o hb => h.cell (p := ⟨b, o, none⟩) hb, fun b hb => by unfold World.shape?; rw [h.block b hb]⟩

/-- What a slot holds: a predicate that stays true while memory only grows. -/
def SP : Type := { p : Value → World → Prop // ∀ v w w', p v w → KC w w' → p v w' }
def anyV : SP := ⟨fun _ _ => True, fun _ _ _ _ _ => trivial⟩
/-- Just this value. -/
def isV (u : Value) : SP := ⟨fun v _ => v = u, fun _ _ _ h _ => h⟩
/-- A slice of bytes of the call's own. -/
def HB (n0 : Nat) (s : ByteArray) (v : Value) (w : World) : Prop := ∃ g c, v = .slice (some ⟨g, 0, none⟩) s.size c ∧ s.size ≤ c ∧ n0 ≤ g ∧ g < w.heap.size ∧ Lib.Bytes w g 0 s ∧ ∃ m, w.shape? g = some (5, m)
theorem HB.keep {n0 : Nat} {s : ByteArray} {v : Value} {w w' : World} (h : HB n0 s v w) (hb : KC w w') : HB n0 s v w' := by
  obtain ⟨g, c, e, hc, h0, hg, hB, m, hm⟩ := h
  exact ⟨g, c, e, hc, h0, Nat.lt_of_lt_of_le hg hb.size, fun i hi => (hb.cell _ _ hg).trans (hB i hi), m, (hb.shape g hg).trans hm⟩
def isB (n0 : Nat) (s : ByteArray) : SP := ⟨HB n0 s, fun _ _ _ h hb => h.keep hb⟩

def dstOf (ops : Array Oper) (j : Nat) : Option Tmp := (ops[j]?).bind (·.dst)
def depB (o : Oper) (j : Nat) : Bool := o.after.any fun e => Region.binds .any e && e.on == j
def slotIn (ops : Array Oper) (s : Tmp) : Bool := (List.range ops.size).any fun i => dstOf ops i == some s
/-- Each operation has a slot of its own, within the frame; each waits for earlier ones alone. -/
def shapeB (ops : Array Oper) (n : Nat) : Bool :=
  ((List.range ops.size).all fun i => match dstOf ops i with
    | some s => decide (s < n) && ((List.range i).all fun j => dstOf ops j != some s)
    | none => false) &&
  ((List.range ops.size).all fun i => ((ops[i]?).map (·.after.all fun e => !Region.binds .any e || decide (e.on < i))).getD false)

theorem shape_dst {ops : Array Oper} {n i : Nat} (h : shapeB ops n = true) (hi : i < ops.size) : ∃ s, dstOf ops i = some s ∧ s < n ∧ ∀ j, j < i → dstOf ops j ≠ some s := by
  simp only [shapeB, Bool.and_eq_true, List.all_eq_true, List.mem_range] at h
  have h1 := h.1 i hi
  cases hd : dstOf ops i with
  | none => rw [hd] at h1; simp at h1
  | some s =>
    rw [hd] at h1
    simp only [Bool.and_eq_true, decide_eq_true_eq, List.all_eq_true, List.mem_range, bne_iff_ne, ne_eq] at h1
    exact ⟨s, rfl, h1.1, h1.2⟩
theorem shape_ne {ops : Array Oper} {n i j : Nat} (h : shapeB ops n = true) (hi : i < ops.size) (hj : j < ops.size) (hne : i ≠ j) : dstOf ops i ≠ dstOf ops j := by
  obtain ⟨s, e, _, hs⟩ := shape_dst h hi
  obtain ⟨t, e', _, ht⟩ := shape_dst h hj
  rcases Nat.lt_or_gt_of_ne hne with h' | h'
  · intro he; exact ht i h' (by rw [he, e'])
  · intro he; exact hs j h' (by rw [← he, e])

section
variable {P : Program} {ops : Array Oper} {Q : Exit → Act → World → Prop}

/-- An operation in one state: it is wanted; its value is as said; memory only grows. -/
def OpDone (P : Program) (ops : Array Oper) (Q : Exit → Act → World → Prop) (φ : SP) (w0 : World) (a : Act) (w : World) (o : Oper) : Prop :=
  Region.wanted o (yielded ops a.tmps) = true ∧ o.wp P a w (fun a' w' => ∃ v, a' = a.put o.dst v ∧ φ.1 v w' ∧ KC w w' ∧ Below w0.heap.size w w') Q

/-- Operation k, in whatever order: it is wanted; it leaves what its slot should hold; memory only grows. -/
def StepAt (P : Program) (ops : Array Oper) (Q : Exit → Act → World → Prop) (Φ : Nat → SP) (w0 : World) (a0 : Act) (k : Nat) (o : Oper) : Prop :=
  ∀ (a : Act) (w : World), Bl w0 w → a.tmps.size = a0.tmps.size → (∀ s, slotIn ops s = false → a.tmps.getD s undef = a0.tmps.getD s undef) →
    (∀ j s, depB o j = true → dstOf ops j = some s → (Φ j).1 (a.tmps.getD s undef) w) →
    OpDone P ops Q (Φ k) w0 a w o

def StepAll (P : Program) (ops : Array Oper) (Q : Exit → Act → World → Prop) (Φ : Nat → SP) (w0 : World) (a0 : Act) : Nat → List Oper → Prop
  | _, [] => True
  | k, o :: l => StepAt P ops Q Φ w0 a0 k o ∧ StepAll P ops Q Φ w0 a0 (k + 1) l

theorem StepAll.at_ {Φ : Nat → SP} {w0 : World} {a0 : Act} : ∀ {l : List Oper} {k : Nat}, StepAll P ops Q Φ w0 a0 k l → ∀ i o, l[i]? = some o → StepAt P ops Q Φ w0 a0 (k + i) o
  | [], _, _, i, o, h => by simp at h
  | x :: l, k, h, 0, o, e => by
    simp only [List.getElem?_cons_zero, Option.some.injEq] at e
    subst e; exact h.1
  | x :: l, k, h, i + 1, o, e => by
    have := StepAll.at_ h.2 i o (by simpa using e)
    rw [show k + (i + 1) = k + 1 + i by omega]; exact this

/-- What holds all along. -/
structure RegI (ops : Array Oper) (Φ : Nat → SP) (w0 : World) (a0 : Act) (listed : Array Bool) (a : Act) (w : World) : Prop where
  bl : Bl w0 w
  defers : a.defers = a0.defers
  size : a.tmps.size = a0.tmps.size
  base : ∀ s, slotIn ops s = false → a.tmps.getD s undef = a0.tmps.getD s undef
  done : ∀ j s, listed.getD j false = true → dstOf ops j = some s → (Φ j).1 (a.tmps.getD s undef) w

theorem getD_set (T : Array Value) (s t : Nat) (v : Value) (hs : s < T.size) : (T.setIfInBounds s v).getD t undef = if s = t then v else T.getD t undef := by
  by_cases h : s = t
  · subst h; simp [Array.getD, hs]
  · rw [if_neg h, getD_ne _ _ _ _ _ h]

theorem wp_region_inv {id : Nat} {a0 : Act} {w0 : World} (hm : P.follows .mixedOrders = true) (Φ : Nat → SP) (hsh : shapeB ops a0.tmps.size = true)
    (hsteps : StepAll P ops Q Φ w0 a0 0 ops.toList)
    (hend : ∀ a w, Bl w0 w → a.defers = a0.defers → a.tmps.size = a0.tmps.size → (∀ s, slotIn ops s = false → a.tmps.getD s undef = a0.tmps.getD s undef) →
      (∀ j s, dstOf ops j = some s → (Φ j).1 (a.tmps.getD s undef) w) → Q .normal a w) :
    (Code.region id ops true).wp P Q a0 w0 := by
  refine wp_region_any hm (wpAny_inv (RegI ops Φ w0 a0) ?_ ?_ _ _ _ _ ?_ (by simp) (by simp))
  · intro listed a w i hI hi
    obtain ⟨h1, h2⟩ := List.mem_filter.1 hi
    have hi' : i < ops.size := by simpa using h1
    obtain ⟨s, hd, hs, _⟩ := shape_dst hsh hi'
    have ho : ops[i]? = some ops[i] := Array.getElem?_eq_getElem hi'
    have hdo : ops[i].dst = some s := by
      have := hd; unfold dstOf at this; rw [ho] at this; exact this
    have hst := StepAll.at_ hsteps i ops[i] (by rw [Array.getElem?_toList]; exact ho)
    rw [Nat.zero_add] at hst
    have hdeps : ∀ j, depB ops[i] j = true → listed.getD j false = true := by
      intro j hj
      rw [ho] at h2
      simp only [Option.map_some, Option.getD_some, Bool.and_eq_true, Array.all_eq_true] at h2
      unfold depB at hj
      rw [Array.any_eq_true] at hj
      obtain ⟨q, hq, he⟩ := hj
      have h3 := h2.2 q hq
      simp only [Bool.and_eq_true, beq_iff_eq] at he
      rw [he.1, he.2] at h3
      simpa using h3
    obtain ⟨hw, hwp⟩ := hst a w hI.bl hI.size hI.base (fun j t hj ht => hI.done j t (hdeps j hj) ht)
    unfold wpOp
    rw [ho]
    simp only [hw, if_true]
    refine .inl (Oper.wp_mono (fun a' w' hh => ?_) hwp)
    obtain ⟨v, rfl, hv, hb, hb0⟩ := hh
    have hput : (a.put ops[i].dst v).tmps = a.tmps.setIfInBounds s v := by rw [hdo]; rfl
    have hsz : s < a.tmps.size := by rw [hI.size]; exact hs
    refine ⟨Below.trans hI.bl hb0, by rw [hdo]; exact hI.defers, by rw [hput]; simpa using hI.size, fun t ht => ?_, fun j t hj ht => ?_⟩
    · rw [hput, getD_set _ _ _ _ hsz, if_neg, hI.base t ht]
      intro e
      subst e
      unfold slotIn at ht
      rw [List.any_eq_false] at ht
      exact ht i (by simpa using hi') (by rw [hd]; simp)
    · rw [hput, getD_set _ _ _ _ hsz]
      by_cases hji : j = i
      · subst hji
        rw [hd] at ht
        cases ht
        rw [if_pos rfl]
        exact hv
      · have hj' : listed.getD j false = true := by
          have e : (listed.setIfInBounds i true).getD j false = listed.getD j false := getD_ne _ _ _ _ _ (Ne.symm hji)
          rw [← e]; exact hj
        have hne : s ≠ t := by
          intro e
          have hjs : j < ops.size := by
            rcases Nat.lt_or_ge j ops.size with h | h
            · exact h
            · unfold dstOf at ht; rw [Array.getElem?_eq_none h] at ht; cases ht
          exact shape_ne hsh hi' hjs (Ne.symm hji) (by rw [hd, ht, e])
        rw [if_neg hne]
        exact (Φ j).2 _ _ _ (hI.done j t hj' ht) hb
  · intro listed a w hI hs hr
    have hall : ∀ n i, i < n → i < ops.size → listed.getD i false = true := by
      intro n
      induction n with
      | zero => intro i h; omega
      | succ n ih =>
        intro i hin hi
        by_cases hlt : i < n
        · exact ih i hlt hi
        · obtain rfl : i = n := by omega
          cases hl : listed.getD i false with
          | true => rfl
          | false =>
            exfalso
            have hmem : i ∈ Region.ready .any ops listed := by
              unfold Region.ready
              refine List.mem_filter.2 ⟨by simpa using hi, ?_⟩
              have hi2 : i < listed.size := by rw [hs]; exact hi
              have hl' : listed.getD i true = false := by
                simp [Array.getD, hi2] at hl ⊢; exact hl
              rw [hl', Array.getElem?_eq_getElem hi]
              simp only [Option.map_some, Option.getD_some, Bool.not_false, Bool.true_and, Array.all_eq_true]
              intro q hq
              have h2 := hsh
              simp only [shapeB, Bool.and_eq_true, List.all_eq_true, List.mem_range] at h2
              have h3 := h2.2 i hi
              rw [Array.getElem?_eq_getElem hi] at h3
              simp only [Option.map_some, Option.getD_some, Array.all_eq_true] at h3
              have h4 := h3 q hq
              cases hb : Region.binds .any (ops[i].after[q]) with
              | false => rfl
              | true =>
                rw [hb] at h4
                have h5 : (ops[i].after[q]).on < i := by simpa using h4
                rw [ih _ h5 (by omega)]; rfl
            rw [hr] at hmem; cases hmem
    refine hend a w hI.bl hI.defers hI.size hI.base (fun j s hd => hI.done j s ?_ hd)
    have hjs : j < ops.size := by
      rcases Nat.lt_or_ge j ops.size with h | h
      · exact h
      · unfold dstOf at hd; rw [Array.getElem?_eq_none h] at hd; cases hd
    exact hall (j + 1) j (by omega) hjs
  · refine ⟨(Bl.refl w0).drew, rfl, rfl, fun _ _ => rfl, fun j s hj _ => ?_⟩
    exfalso
    simp only [Array.getD, Array.size_replicate] at hj
    split at hj
    · simp at hj
    · cases hj

/-! ### single operations -/
variable {o : Oper} {a : Act} {w w' : World} {K : Act → World → Prop} {v : Value}
theorem wpv_run (hrun : (execOp a.eval o).run P w = .ok (.value v) w') (h : K (a.put o.dst v) w') : o.wp P a w K Q := by
  unfold Oper.wp; rw [hrun]; exact h
theorem wpv_call {f : FuncId} {args : Array Value} (hrun : (execOp a.eval o).run P w = .ok (.enter f args) w') (h : Calls P f args w' (fun e w'' => ∃ v, e = .returned v ∧ K (a.put o.dst v) w'')) : o.wp P a w K Q := by
  unfold Oper.wp; rw [hrun]
  refine Calls.mono h (fun e w'' hh => ?_)
  obtain ⟨v, rfl, hk⟩ := hh
  exact hk
theorem wanted_none (hg : o.guard = none) (T : Array Value) : Region.wanted o (yielded ops T) = true := by unfold Region.wanted; rw [hg]
theorem wanted_some {g : Nat} {b : Bool} {s : Tmp} (hg : o.guard = some (g, b)) (hd : dstOf ops g = some s) (T : Array Value) (hs : s < T.size) (hT : T.getD s undef = .bool b) : Region.wanted o (yielded ops T) = true := by
  unfold Region.wanted yielded
  rw [hg]
  unfold dstOf at hd
  have e : T[s]? = some (.bool b) := by
    rw [Array.getElem?_eq_getElem hs]
    rw [← hT]; simp [Array.getD, hs]
  simp only [hd, Option.bind_some, e, beq_self_eq_true]

theorem below_w0 {w0 w w' : World} (hbl : Bl w0 w) (h : Below w.heap.size w w') : KC w w' ∧ Below w0.heap.size w w' := ⟨KC.of h, h.mono hbl.size⟩

variable {φ : SP} {w0 : World} {x y c : Operand}
theorem od_move (hw : Region.wanted o (yielded ops a.tmps) = true) (hop : o.op = .move x) (hv : φ.1 (a.eval x) w) : OpDone P ops Q φ w0 a w o :=
  ⟨hw, wpv_run (v := a.eval x) (w' := w) (by unfold execOp; rw [hop]; rfl) ⟨_, rfl, hv, KC.refl _, Below.refl _ _⟩⟩
theorem od_assign (hw : Region.wanted o (yielded ops a.tmps) = true) (hop : o.op = .assign x) (hv : φ.1 (a.eval x) w) : OpDone P ops Q φ w0 a w o :=
  ⟨hw, wpv_run (v := a.eval x) (w' := w) (by unfold execOp; rw [hop]; rfl) ⟨_, rfl, hv, KC.refl _, Below.refl _ _⟩⟩
theorem od_pick (hw : Region.wanted o (yielded ops a.tmps) = true) (hop : o.op = .pick c x y) (hc : a.eval c = .bool true) (hv : φ.1 (a.eval x) w) : OpDone P ops Q φ w0 a w o :=
  ⟨hw, wpv_run (v := a.eval x) (w' := w) (by unfold execOp; rw [hop]; simp [hc, asBool]) ⟨_, rfl, hv, KC.refl _, Below.refl _ _⟩⟩
theorem od_pick_else (hw : Region.wanted o (yielded ops a.tmps) = true) (hop : o.op = .pick c x y) (hc : a.eval c = .bool false) (hv : φ.1 (a.eval y) w) : OpDone P ops Q φ w0 a w o :=
  ⟨hw, wpv_run (v := a.eval y) (w' := w) (by unfold execOp; rw [hop]; simp [hc, asBool]) ⟨_, rfl, hv, KC.refl _, Below.refl _ _⟩⟩
theorem od_run (hw : Region.wanted o (yielded ops a.tmps) = true) (hrun : (execOp a.eval o).run P w = .ok (.value v) w') (hv : φ.1 v w') (hk : KC w w' ∧ Below w0.heap.size w w') : OpDone P ops Q φ w0 a w o :=
  ⟨hw, wpv_run hrun ⟨_, rfl, hv, hk⟩⟩
theorem od_same (hw : Region.wanted o (yielded ops a.tmps) = true) (hrun : (execOp a.eval o).run P w = .ok (.value v) w) (hv : φ.1 v w) : OpDone P ops Q φ w0 a w o :=
  od_run hw hrun hv ⟨KC.refl _, Below.refl _ _⟩
theorem od_call {k : FuncId} {xs : List Operand} {ts : Array TypeId} (hbl : Bl w0 w) (hw : Region.wanted o (yielded ops a.tmps) = true) (hop : o.op = .call { callee := .value (.func k), args := xs.toArray, argTypes := ts }) (he : ∀ args w, (callFunc k args).run P w = .ok (.enter k args) w)
    (h : Calls P k (xs.map a.eval).toArray w (fun e w' => ∃ v, e = .returned v ∧ φ.1 v w' ∧ Below w.heap.size w w')) : OpDone P ops Q φ w0 a w o := by
  refine ⟨hw, wpv_call (f := k) (args := (xs.map a.eval).toArray) (w' := w) ?_ (h.mono fun e w' ⟨v, hv, h1, h2⟩ => ⟨v, hv, _, rfl, h1, below_w0 hbl h2⟩)⟩
  unfold execOp
  rw [hop]
  simp [resolve, invoke, Act.eval, Deferred.ofValue, he _ w]
end

/-! ### operations on bytes -/
section
variable {ops : Array Oper} {Q : Exit → Act → World → Prop} {o : Oper} {a : Act} {w w0 : World} {x y : Operand}
theorem od_sb {s : ByteArray} (hbl : Bl w0 w) (hw : Region.wanted o (yielded ops a.tmps) = true) (hop : o.op = .convert 9 23 x) (hx : a.eval x = .string s) : OpDone Tryd.prog ops Q (isB w0.heap.size s) w0 a w o := by
  refine od_run hw (v := .slice (some ⟨w.heap.size, 0, none⟩) s.size (cvN w s)) (w' := cvW w s) ?_ ⟨w.heap.size, _, rfl, grownCap_ge _ _ _ _, hbl.size, by rw [cv_size]; omega, cv_bytes s w _ rfl, ?_⟩ (below_w0 hbl ((Bl.refl w).cv s))
  · unfold execOp; rw [hop]; simp [hx, cv_run s w]
  · unfold cvW World.shape?; rw [bytesWorld_at_new]; exact ⟨_, rfl⟩
theorem od_bs {s : ByteArray} {n0 : Nat} (hw : Region.wanted o (yielded ops a.tmps) = true) (hop : o.op = .convert 23 9 x) (hx : HB n0 s (a.eval x) w) : OpDone Tryd.prog ops Q (isV (.string s)) w0 a w o := by
  obtain ⟨g, c, e, _, _, _, hB, _⟩ := hx
  refine od_same hw (v := .string s) ?_ rfl
  unfold execOp; rw [hop]
  simp [e, Lib.run_convert_whole (P := Tryd.prog) w 23 5 9 Tryd.underlying23 Tryd.underlying5 Tryd.underlying9 g 0 s hB c]

theorem hb_new {s : ByteArray} {C : Array Value} (hbl : Bl w0 w) (hC : C = cellsB s.data.toList) (n : Nat) (hn : s.size = n) : HB w0.heap.size s (.slice (some ⟨w.heap.size, 0, none⟩) n n) (w.alloc (.cells C 5)) := by
  subst hn
  refine ⟨w.heap.size, s.size, rfl, Nat.le_refl _, hbl.size, by simp, bytes_const w s (0, 0) C hC, C.size, ?_⟩
  unfold World.shape?
  rw [heap_alloc_new]

theorem od_build1 (c : Int) (h0 : 0 ≤ c) (h1 : c ≤ 255) (hbl : Bl w0 w) (hw : Region.wanted o (yielded ops a.tmps) = true) (hop : o.op = .buildSlice 23 1 #[(0, x)]) (hx : a.eval x = .int .u8 c) : OpDone Tryd.prog ops Q (isB w0.heap.size ⟨#[UInt8.ofNat c.toNat]⟩) w0 a w o := by
  refine od_run hw (v := .slice (some ⟨w.heap.size, 0, none⟩) 1 1) (w' := w.alloc (.cells #[.int .u8 c] 5)) ?_ (hb_new hbl ?_ 1 rfl) (below_w0 hbl ((Below.refl _ _).alloc (Nat.le_refl _) _))
  · unfold execOp; rw [hop]; simp [hx]; go_simp
  · show #[Value.int .u8 c] = #[Value.int .u8 ((UInt8.ofNat c.toNat).toNat : Int)]
    rw [show ((UInt8.ofNat c.toNat).toNat : Int) = c from u8_back c h0 h1]

theorem shape_cells {g : Nat} {t : TypeId} {m : Nat} (h : w.shape? g = some (t, m)) : ∃ C fr, w.heap[g]? = some (.cells C t fr) ∧ C.size = m := by
  unfold World.shape? at h
  split at h
  · rename_i C e fr hh
    simp only [Option.some.injEq, Prod.mk.injEq] at h
    exact ⟨C, fr, by rw [hh, h.1], h.2⟩
  · cases h

theorem od_bb {s : ByteArray} (hw : Region.wanted o (yielded ops a.tmps) = true) (hop : o.op = .convert 23 23 x) (hx : HB w0.heap.size s (a.eval x) w) : OpDone Tryd.prog ops Q (isB w0.heap.size s) w0 a w o := by
  obtain ⟨g, c, e, hc, h0, hg, hB, m, hm⟩ := hx
  obtain ⟨C, fr, hh, rfl⟩ := shape_cells hm
  have hheap : ∀ k, (w.freeze ⟨g, C.size, none⟩ 1).heap[k]? = if g = k then (w.heap[k]?).map (fun | .cells c elem (lo, hi) => .cells c elem (if lo == hi then (C.size, C.size + 1) else (min lo C.size, max hi (C.size + 1))) | o => o) else w.heap[k]? := by
    intro k
    unfold World.freeze
    rw [if_neg (by decide)]
    show (w.heap.modify g _)[k]? = _
    rw [Array.getElem?_modify]
    split <;> rfl
  have hkc : KC w (w.freeze ⟨g, C.size, none⟩ 1) := by
    refine ⟨?_, fun b o' hb => ?_, fun b hb => ?_⟩
    · unfold World.freeze; rw [if_neg (by decide)]; simp
    · unfold World.cell?
      rw [hheap]
      by_cases hgb : g = b
      · subst hgb; rw [if_pos rfl, hh]; rfl
      · rw [if_neg hgb]
    · unfold World.shape?
      rw [hheap]
      by_cases hgb : g = b
      · subst hgb; rw [if_pos rfl, hh]; rfl
      · rw [if_neg hgb]
  refine od_run hw (v := a.eval x) (w' := w.freeze ⟨g, C.size, none⟩ 1) ?_ ((HB.keep ⟨g, c, e, hc, h0, hg, hB, _, hm⟩) hkc) ⟨hkc, ⟨by unfold World.freeze; rw [if_neg (by decide)], by unfold World.freeze; rw [if_neg (by decide)], by unfold World.freeze; rw [if_neg (by decide)], hkc.size, fun k hk => by rw [hheap, if_neg (by omega)]⟩⟩
  unfold execOp; rw [hop]
  simp [e, convert, run_underlying Tryd.underlying23, run_underlying Tryd.underlying5, markStringish, hm]

theorem od_eql_int {k : IntKind} {n : Int} {t r : TypeId} (_hu : Tryd.prog.underlying t = some (.int k)) (hw : Region.wanted o (yielded ops a.tmps) = true) (hop : o.op = .binOp .eql t x y r) (hx : a.eval x = .int k n) (hy : a.eval y = .int k n) : OpDone Tryd.prog ops Q (isV (.bool true)) w0 a w o := by
  refine od_same hw (v := .bool true) ?_ rfl
  unfold execOp; rw [hop]
  simp [hx, hy, eqGuard]
  go_simp
end
end Go.Proofs.YtpaieadnicmplaaDoor

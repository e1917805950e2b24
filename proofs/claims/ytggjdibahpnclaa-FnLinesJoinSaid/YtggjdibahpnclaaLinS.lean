/- StrLines: the collecting loop over the iterator; the reference. -/
import Derived.Test.YtggjdibahpnclaaLin
namespace Go.Proofs.Ytggjdibahpnclaa
open Go.RowKit Go.Lib
attribute [local go_sem] Oper.semAt_some

theorem rowLe {w : World} {base base' : Nat} {e : TypeId} {size : Nat} {v : Value} {n : Nat} {xs : List Value} (h : w.ownsRow base e size v n xs) (hb : base' ≤ base) : w.ownsRow base' e size v n xs := by
  refine ⟨h.1, ?_⟩
  rcases h.2 with h' | ⟨g, cap, cur, e1, e2, e3⟩
  · exact .inl h'
  · exact .inr ⟨g, cap, cur, e1, Nat.le_trans hb e2, e3⟩

theorem linesFrom_len (s : ByteArray) : ∀ f a, (linesFrom s f a).length ≤ s.size - a
  | 0, a => Nat.zero_le _
  | f + 1, a => by
    unfold linesFrom
    split
    · exact Nat.zero_le _
    · split
      · simp; omega
      · have := linesFrom_len s f (a + (indexByte (s.data.toList.drop a) 10).toNat + 1)
        simp only [List.length_cons]; omega

set_option maxRecDepth 100000 in
set_option maxHeartbeats 1000000 in
theorem gLines (s : ByteArray) (w : World) :
    Calls Try.prog 46 #[.string s] w fun e w' => e = .returned (.func (.func 62) #[] #[.pointer (some ⟨w.heap.size, 0, none⟩)]) ∧ w' = w.alloc (.cells #[.string s] 9) := by
  go_enter Try.func46, Try.ntmps46
  go_wp2
  go_ret
  exact ⟨rfl, rfl⟩

set_option maxRecDepth 100000 in
set_option maxHeartbeats 2000000 in
theorem StrLines (s : ByteArray) (w : World) (hs : s.size < 4294967281) :
    Calls Try.prog 23 #[.string s] w fun e W' => ∃ v, e = .returned v ∧ W'.ownsRow w.heap.size 9 1 v (linesAt s 0).length ((linesAt s 0).map Value.string) ∧ Below w.heap.size w W' := by
  have hlen : (linesAt s 0).length ≤ s.size := by have := linesFrom_len s (s.size + 1 - 0) 0; unfold linesAt; omega
  obtain ⟨i0, hi, hz0, hz1, hz2⟩ := info_parts str_info
  refine callsIn_wide (n := 5) |>.1 ?_
  refine callsIn_of_wp_marks Try.func23 rfl trivial ?_ rfl
  simp only [Try.ntmps23, List.size_toArray, List.length_cons, List.length_nil, Nat.reduceAdd, Nat.reduceSub, Array.replicate_succ, Array.replicate_zero, List.push_toArray, List.append_toArray, List.nil_append, List.cons_append]
  gi_wp2_with (refine ⟨trivial, ?_⟩; refine (callsIn_wide.2 (gLines s _)).mono ?_; rintro e w' ⟨rfl, rfl⟩)
  have bO := Boxed.new w 34 (.slice none 0 0)
  have bN := Boxed.new (w.alloc (.cells #[.slice none 0 0] 34)) 9 (.string s)
  rw [World.size_alloc] at bN
  have hB0 : Below w.heap.size w ((w.alloc (.cells #[.slice none 0 0] 34)).alloc (.cells #[.string s] 9)) := ((Below.refl _ w).alloc (Nat.le_refl _) _).alloc (by simp) _
  have hEq : ∀ (W : World) (v : Value) (k : Nat) (xs : List Value), W.ownsRow (w.heap.size + 2) 9 1 v k xs → v.ownBlock = none ∨ v.ownBlock ≠ some (w.heap.size + 1) := by
    intro W v k xs h
    rcases hv : v.ownBlock with _ | g
    · exact .inl rfl
    · refine .inr fun e => ?_
      have := (h.lt g hv).1
      cases e; omega
  refine wpIn_rangeFunc_all (F := Fence.wide) rfl (by decide) (gf := 62) (lb := #[.pointer (some ⟨w.heap.size + 1, 0, none⟩)]) rfl trivial (enters_of Try.func62 (by kernel_rfl) rfl)
    (lines_iter 4 (by decide) (w.heap.size + 1) s _ hs bN) (by simp) (fun _ => rfl)
    (fun (pre : List ByteArray) W => (∃ v, Boxed W w.heap.size 34 v ∧ W.ownsRow (w.heap.size + 2) 9 1 v pre.length (pre.map Value.string) ∧ True) ∧ Below w.heap.size w W ∧ w.heap.size + 2 ≤ W.heap.size)
    (OwnFrom.and (Own.from (holdsRow_own (w.heap.size + 2) w.heap.size 34 9 1 (fun pre : List ByteArray => pre.length) (fun pre => pre.map Value.string) (fun _ _ => True)) _) (OwnFrom.and (ownFrom_below (Nat.le_refl _) (by simp; omega)) (fun _ _ _ _ hs hg _ => Nat.le_trans hs hg.size)))
    ?hset (fun pre W h => ⟨h.1, h.2.1.drew, h.2.2⟩)
    ⟨⟨_, bO.alloc _, World.ownsRow_nil _ _ _ _, trivial⟩, hB0, by simp⟩
    (fun x => { tmps := #[.string s, undef, .slice none 0 0, .pointer (some ⟨w.heap.size, 0, none⟩), .string x, .string s, .func (.func 62) #[] #[.pointer (some ⟨w.heap.size + 1, 0, none⟩)], .string x, undef, undef, undef, undef, undef], defers := [] }) ?assign ?body ?done
  case hset =>
    rintro pre W v ⟨⟨u, hu, hr, _⟩, hB, hz⟩
    exact ⟨⟨u, (Below.heap_setCell W ⟨w.heap.size + 1, 0, none⟩ v _ (by show w.heap.size ≠ w.heap.size + 1; omega)).trans hu, hr.kept (grownBy_setCell' W _ v) (hEq W u _ _ hr), trivial⟩, hB.setCell (p := ⟨w.heap.size + 1, 0, none⟩) (by show w.heap.size ≤ w.heap.size + 1; omega) v, by simpa using hz⟩
  case assign =>
    intro l x W K hK
    gi_wp2
    exact hK
  case body =>
    rintro l pre x W ⟨⟨v, hv, hrow, _⟩, hB, hz⟩ hlt
    have hc := hv.cell
    have hm : pre.length < maxLen := by unfold maxLen; omega
    have hrow0 := rowLe (base' := w.heap.size) hrow (by omega)
    gi_wp2_with (gi_at_builtin; (refine wpListIn_append_own _ rfl _ _ 34 rfl (w.heap.size + 2) 9 i0 (.string ByteArray.empty) 1 16 Try.underlying34 hi hz0 hz1 hz2 rfl (by decide) _ _ _ rfl (hrow.alloc _) ⟨W.heap.size, 0, none⟩ 1 1 [.string x] rfl rfl (cell_one_new _ _ _) (by simp [Value.oneCell']) (by omega) (by omega) (by have := hv.lt; simp; omega) ?_; intro v' w1 hown' hgrow _; obtain ⟨g', cap', rfl⟩ := ownsRow_succ hown'; obtain ⟨hv1, hv2, hr2, hk2, hb2⟩ := hv.appended (by decide) hrow0 hB.size (Nat.le_refl _) (rowLe hown' (by omega)) hgrow; have hc1 := hv1.cell; have hf1 := hv1.frozen))
    refine ⟨hk2, ?_, ⟨_, hv2, ?_, trivial⟩, hB.trans hb2, ?_⟩
    · refine (Below.heap_setCell w1 ⟨w.heap.size, 0, none⟩ _ _ (by show w.heap.size + 1 ≠ w.heap.size; omega)).trans ((hgrow.block _ (by simp; omega) ?_).trans (Below.heap_alloc _ _ _ (by omega)))
      rcases hEq W v _ _ hrow with h | h
      · show some (w.heap.size + 1) ≠ v.ownBlock; rw [h]; simp
      · exact h.symm
    · refine (hown'.kept (grownBy_setCell' w1 w.heap.size _) (.inr ?_))|> fun h => by simpa using h
      exact (hv1.not_row (by decide) hown').symm
    · have := hgrow.size
      simp at this ⊢
      omega
  case done =>
    rintro D W hD ⟨⟨v, hv, hrow, _⟩, hB, hz⟩ hK
    have hc := hv.cell
    gi_wp2
    refine ⟨by simp, .inl ⟨_, _, rfl, run_takeDeferred hK, ?_⟩⟩
    exact ⟨_, results_tmp rfl _ _ _, v, rfl, ownsRow_putObj (rowLe hrow (by omega)) _ hK rfl, hB.trans (belowK_b (w := w) (Nat.le_refl _) W D _ _ (by simp at hD; omega) hK rfl rfl)⟩
end Go.Proofs.Ytggjdibahpnclaa

/- FnStrSplitSeq: the collecting loop over the iterator, and the walk. -/
import Derived.Test.YtblaldahhhokmaaDoorSeqW
import Derived.Test.YtblaldahhhokmaaDoorWStrSplit
set_option linter.unusedVariables false
namespace Go.Proofs.YtblaldahhhokmaaDoor
open Go.RowKit Go.Lib
attribute [local go_sem] Oper.semAt_some

set_option maxRecDepth 100000 in
set_option maxHeartbeats 1000000 in
theorem gsplitSeq (s sep : ByteArray) (sv : Int) (w : World) :
    Calls Tryd.prog 68 #[.string s, .string sep, .int .i64 sv] w fun e w' => e = .returned (.func (.func 84) #[] #[.pointer (some ⟨w.heap.size + 1, 0, none⟩), .pointer (some ⟨w.heap.size, 0, none⟩), .pointer (some ⟨w.heap.size + 2, 0, none⟩)]) ∧
      w' = ((w.alloc (.cells #[.string s] 9)).alloc (.cells #[.string sep] 9)).alloc (.cells #[.int .i64 sv] 3) := by
  go_enter Tryd.func68, Tryd.ntmps68
  go_wp2
  go_ret
  exact ⟨rfl, rfl⟩
set_option maxRecDepth 100000 in
set_option maxHeartbeats 1000000 in
theorem gSplitSeq (s sep : ByteArray) (w : World) :
    Calls Tryd.prog 50 #[.string s, .string sep] w fun e w' => e = .returned (.func (.func 84) #[] #[.pointer (some ⟨w.heap.size + 1, 0, none⟩), .pointer (some ⟨w.heap.size, 0, none⟩), .pointer (some ⟨w.heap.size + 2, 0, none⟩)]) ∧
      w' = ((w.alloc (.cells #[.string s] 9)).alloc (.cells #[.string sep] 9)).alloc (.cells #[.int .i64 0] 3) := by
  go_enter Tryd.func50, Tryd.ntmps50
  go_wp2_with fail
  refine (gsplitSeq s sep 0 w).mono ?_
  rintro e w' ⟨rfl, rfl⟩
  go_wp2_with fail
  go_ret
  exact ⟨rfl, rfl⟩

/-- Either way of the iterator. -/
theorem seq_any (n : Nat) (hn : 1 ≤ n) (B : Nat) (s sep : ByteArray) (w : World) (hs : s.size < 2147483648) (hp : sep.size < 2147483648) (hT : Tabs w) (hkl : ∀ b, Kseq B b → ∃ o, w.heap[b]? = some o)
    (hb : Boxed w B 9 (.string s)) (hb1 : Boxed w (B + 1) 9 (.string sep)) (hb2 : Boxed w (B + 2) 3 (.int .i64 0)) :
    SeqAll2 Fence.wide n Tryd.prog 84 #[.pointer (some ⟨B + 1, 0, none⟩), .pointer (some ⟨B, 0, none⟩), .pointer (some ⟨B + 2, 0, none⟩)] (fun x : ByteArray => #[Value.string x]) B (Kseq B) (allP s sep 0 (-1)) w := by
  by_cases h0 : sep.size = 0
  · rw [← seqE_all s sep 0 h0]
    exact seq_iterE n hn B s sep 0 w hs h0 hT hkl hb hb1 hb2
  · rw [← seqS_all s sep 0 (by omega)]
    exact seq_iter n hn B s sep 0 w hs hp (by omega) (Nat.zero_le _) hb hb1 hb2

set_option maxRecDepth 100000 in
set_option maxHeartbeats 2000000 in
theorem StrSplitSeq (s sep : ByteArray) (w : World) (hs : s.size < 2147483648) (hp : sep.size < 2147483648) (hT : Tabs w) :
    Calls Tryd.prog 33 #[.string s, .string sep] w fun e W' => ∃ v, e = .returned v ∧ W'.ownsRow w.heap.size 9 1 v (allP s sep 0 (-1)).length ((allP s sep 0 (-1)).map Value.string) ∧ Below w.heap.size w W' := by
  have hlen := allP_small s sep 0 (-1) (by decide) hs
  obtain ⟨i0, hi, hz0, hz1, hz2⟩ := info_parts str_info
  have HT := Lib.hid hT
  have hlt1 : 2 < w.heap.size := World.block_lt_of_cell? _ _ (hT.1 0 (by decide))
  have hlt2 : 3 < w.heap.size := World.block_lt_of_cell? _ _ (hT.2 0 (by decide)).1
  clear hT
  refine callsIn_wide (n := 5) |>.1 ?_
  refine callsIn_of_wp_marks Tryd.func33 rfl trivial ?_ rfl
  simp only [Tryd.ntmps33, List.size_toArray, List.length_cons, List.length_nil, Nat.reduceAdd, Nat.reduceSub, Array.replicate_succ, Array.replicate_zero, List.push_toArray, List.append_toArray, List.nil_append, List.cons_append]
  gi_wp2_with (refine ⟨trivial, ?_⟩; refine (callsIn_wide.2 (gSplitSeq s sep _)).mono ?_; rintro e w' ⟨rfl, rfl⟩)
  obtain ⟨W0, hW0⟩ : ∃ W0, W0 = ((((w.alloc (.cells #[.slice none 0 0] 24)).alloc (.cells #[.string s] 9)).alloc (.cells #[.string sep] 9)).alloc (.cells #[.int .i64 0] 3)) := ⟨_, rfl⟩
  have bO : Boxed W0 w.heap.size 24 (.slice none 0 0) := by rw [hW0]; exact (((Boxed.new w 24 (.slice none 0 0)).alloc _).alloc _).alloc _
  have bS : Boxed W0 (w.heap.size + 1) 9 (.string s) := by
    rw [hW0]
    have := Boxed.new (w.alloc (.cells #[.slice none 0 0] 24)) 9 (.string s)
    rw [World.size_alloc] at this
    exact (this.alloc _).alloc _
  have bP : Boxed W0 (w.heap.size + 1 + 1) 9 (.string sep) := by
    rw [hW0]
    have := Boxed.new ((w.alloc (.cells #[.slice none 0 0] 24)).alloc (.cells #[.string s] 9)) 9 (.string sep)
    rw [World.size_alloc, World.size_alloc] at this
    exact this.alloc _
  have bI : Boxed W0 (w.heap.size + 1 + 2) 3 (.int .i64 0) := by
    rw [hW0]
    have := Boxed.new (((w.alloc (.cells #[.slice none 0 0] 24)).alloc (.cells #[.string s] 9)).alloc (.cells #[.string sep] 9)) 3 (.int .i64 0)
    rw [World.size_alloc, World.size_alloc, World.size_alloc] at this
    exact this
  have hB0 : Below w.heap.size w W0 := by rw [hW0]; exact ((((Below.refl _ w).alloc (Nat.le_refl _) _).alloc (by simp) _).alloc (by simp; omega) _).alloc (by simp; omega) _
  have hWz : W0.heap.size = w.heap.size + 4 := by rw [hW0]; simp
  rw [← hW0]
  clear hW0
  have hT0 := HT.out.below hB0
  have hKlt : ∀ b, Kseq (w.heap.size + 1) b → b < w.heap.size + 4 ∧ b ≠ w.heap.size := by
    rintro b (rfl | rfl | rfl | rfl | rfl)
    · omega
    · omega
    · omega
    · omega
    · omega
  have hkl : ∀ b, Kseq (w.heap.size + 1) b → ∃ o, W0.heap[b]? = some o := fun b hb => ⟨_, Array.getElem?_eq_getElem (by have := (hKlt b hb).1; omega)⟩
  have hEq : ∀ (W : World) (v : Value) (k : Nat) (xs : List Value), W.ownsRow (w.heap.size + 4) 9 1 v k xs → ∀ b, b < w.heap.size + 4 → v.ownBlock = none ∨ v.ownBlock ≠ some b := by
    intro W v k xs h b hb
    rcases hv : v.ownBlock with _ | g
    · exact .inl rfl
    · refine .inr fun e => ?_
      have := (h.lt g hv).1
      cases e; omega
  refine wpIn_rangeFunc_all2 (F := Fence.wide) rfl (by decide) (gf := 84) (lb := #[.pointer (some ⟨w.heap.size + 1 + 1, 0, none⟩), .pointer (some ⟨w.heap.size + 1, 0, none⟩), .pointer (some ⟨w.heap.size + 1 + 2, 0, none⟩)]) rfl trivial (enters_of Tryd.func84 (by kernel_rfl) rfl)
    (seq_any 4 (by decide) (w.heap.size + 1) s sep W0 hs hp hT0 hkl bS bP bI) (fun b hb => by have := (hKlt b hb).1; omega) (by omega) (fun _ => rfl)
    (fun (pre : List ByteArray) W => (∃ v, Boxed W w.heap.size 24 v ∧ W.ownsRow (w.heap.size + 4) 9 1 v pre.length (pre.map Value.string) ∧ True) ∧ Below w.heap.size w W ∧ w.heap.size + 4 ≤ W.heap.size)
    (OwnFrom.and (Own.from (holdsRow_own (w.heap.size + 4) w.heap.size 24 9 1 (fun pre : List ByteArray => pre.length) (fun pre => pre.map Value.string) (fun _ _ => True)) _) (OwnFrom.and (ownFrom_below (Nat.le_refl _) (by omega)) (fun _ _ _ _ hs hg _ => Nat.le_trans hs hg.size)))
    ?hset (fun pre W h => ⟨h.1, h.2.1.drew, h.2.2⟩) ?hbel
    ⟨⟨_, bO, World.ownsRow_nil _ _ _ _, trivial⟩, hB0, by omega⟩
    (fun x => { tmps := #[.string s, .string sep, undef, undef, .slice none 0 0, .pointer (some ⟨w.heap.size, 0, none⟩), .string x, .string s, .string sep, .func (.func 84) #[] #[.pointer (some ⟨w.heap.size + 1 + 1, 0, none⟩), .pointer (some ⟨w.heap.size + 1, 0, none⟩), .pointer (some ⟨w.heap.size + 1 + 2, 0, none⟩)], .string x, undef, undef, undef, undef, undef], defers := [] }) ?assign ?body ?done
  case hset =>
    rintro pre W v ⟨⟨u, hu, hr, _⟩, hB, hz⟩
    exact ⟨⟨u, (Below.heap_setCell W ⟨w.heap.size + 1, 0, none⟩ v _ (by show w.heap.size ≠ w.heap.size + 1; omega)).trans hu, hr.kept (grownBy_setCell' W _ v) (hEq W u _ _ hr _ (by omega)), trivial⟩, hB.setCell (p := ⟨w.heap.size + 1, 0, none⟩) (by show w.heap.size ≤ w.heap.size + 1; omega) v, by simpa using hz⟩
  case hbel =>
    rintro pre W W' ⟨⟨u, hu, hr, _⟩, hB, hz⟩ hb
    exact ⟨⟨u, (hb.block _ (by omega)).trans hu, rowBelow hr hb, trivial⟩, hB.trans (hb.mono hB.size), Nat.le_trans hz hb.size⟩
  case assign =>
    intro l x W K hK
    gi_wp2
    exact hK
  case body =>
    rintro l pre x W ⟨⟨v, hv, hrow, _⟩, hB, hz⟩ hlt
    have hc := hv.cell
    have hm : pre.length < maxLen := by unfold maxLen; omega
    have hrow0 := rowLe (base' := w.heap.size) hrow (by omega)
    gi_wp2_with (gi_at_builtin; (refine wpListIn_append_own _ rfl _ _ 24 rfl (w.heap.size + 4) 9 i0 (.string ByteArray.empty) 1 16 Tryd.underlying24 hi hz0 hz1 hz2 rfl (by decide) _ _ _ rfl (hrow.alloc _) ⟨W.heap.size, 0, none⟩ 1 1 [.string x] rfl rfl (cell_one_new _ _ _) (by simp [Value.oneCell']) (by omega) (by omega) (by have := hv.lt; simp; omega) ?_; intro v' w1 hown' hgrow _; obtain ⟨g', cap', rfl⟩ := ownsRow_succ hown'; obtain ⟨hv1, hv2, hr2, hk2, hb2⟩ := hv.appended (by decide) hrow0 hB.size (Nat.le_refl _) (rowLe hown' (by omega)) hgrow; have hc1 := hv1.cell; have hf1 := hv1.frozen))
    refine ⟨hk2, ?_, ⟨_, hv2, ?_, trivial⟩, hB.trans hb2, ?_⟩
    · intro b hb
      obtain ⟨hb1, hb2⟩ := hKlt b hb
      refine (Below.heap_setCell w1 ⟨w.heap.size, 0, none⟩ _ _ (by show b ≠ w.heap.size; exact hb2)).trans ((hgrow.block _ (by simp; omega) ?_).trans (Below.heap_alloc _ _ _ (by omega)))
      rcases hEq W v _ _ hrow b hb1 with h | h
      · show some b ≠ v.ownBlock; rw [h]; simp
      · exact h.symm
    · refine (hown'.kept (grownBy_setCell' w1 w.heap.size _) (.inr ?_))|> fun h => by simpa using h
      exact (hv1.not_row (by decide) hown').symm
    · have := hgrow.size
      simp at this ⊢
      omega
  case done =>
    rintro D W hD ⟨⟨v, hv, hrow, _⟩, hB, hz⟩ hK
    have hc := hv.cell
    gi_wp2
    refine ⟨by simp, .inl ⟨_, _, rfl, run_takeDeferred hK, ?_⟩⟩
    exact ⟨_, results_tmp rfl _ _ _, v, rfl, ownsRow_putObj (rowLe hrow (by omega)) _ hK rfl, hB.trans (belowK_b (w := w) (Nat.le_refl _) W D _ _ (by omega) hK rfl rfl)⟩

set_option maxRecDepth 100000 in
set_option maxHeartbeats 2000000 in
theorem walk_FnStrSplitSeq (s sep : ByteArray) (w : World) (_hs : s.size ≤ maxLen) (_hcs : sep.size ≤ maxLen) (hT : Tabs w) :
    Calls Tryd.prog 11 #[.string s, .string sep] w fun e w' => e = .returned (.bool true) ∧ Below w.heap.size w w' := by
  have HT := Lib.hid hT
  clear hT
  by_cases hbig : 2147483647 < s.size
  · go_enter Tryd.func11, Tryd.ntmps11
    go_wp2
    go_ret
    exact ⟨rfl, Below.refl _ _⟩
  by_cases hbig2 : 2147483647 < sep.size
  · go_enter Tryd.func11, Tryd.ntmps11
    go_wp2
    go_ret
    exact ⟨rfl, Below.refl _ _⟩
  have hs' : s.size < 2147483648 := by omega
  have hp' : sep.size < 2147483648 := by omega
  have hlen := allP_small s sep 0 (-1) (by decide) hs'
  go_enter Tryd.func11, Tryd.ntmps11
  go_wp2_with fail
  refine (StrSplitSeq s sep _ hs' hp' HT.out).mono ?_
  rintro e w1 ⟨v1, rfl, hA, hB1⟩
  have HB1 := Lib.hid hB1
  have HA := Lib.hid (StrsAt.of_own hA)
  clear hB1 hA
  go_wp2_with fail
  refine (StrSplit s sep _ hs' (HT.out.below HB1.out)).mono ?_
  rintro e w2 ⟨v2, rfl, hA2, hB2⟩
  have HB2 := bl3 HB1 hB2
  have HAb := Lib.hid (HA.out.below hB2)
  have HA2 := Lib.hid hA2
  clear hB2 hA2 HA
  go_wp2_with fail
  refine (SeSame (allP s sep 0 (-1)) _ _ _ HAb.out HA2.out hlen).mono ?_
  rintro e w3 ⟨rfl, rfl⟩
  go_wp2_with fail
  obtain ⟨ab, hab⟩ : ∃ ab : ByteArray, ab = ⟨#[97, 98]⟩ := ⟨_, rfl⟩
  obtain ⟨bb, hbb⟩ : ∃ bb : ByteArray, bb = ⟨#[98]⟩ := ⟨_, rfl⟩
  rw [← hab, ← hbb]
  refine (StrSplitSeq ab bb _ (by rw [hab]; decide) (by rw [hbb]; decide) (HT.out.below HB2.out)).mono ?_
  rintro e w4 ⟨v4, rfl, h4, hB4⟩
  have hA4 := StrsAt.of_own h4
  obtain ⟨A, c, rfl⟩ := hA4.slice
  have HB4 := bl3 HB2 hB4
  rw [hab, hbb, ab_split]
  clear hA4 hB4 h4 hab hbb
  go_wp2_with fail
  go_ret
  exact ⟨rfl, HB4.out⟩
end Go.Proofs.YtblaldahhhokmaaDoor

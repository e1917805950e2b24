/- gobytes.explode. -/
import Derived.Test.YtpaieadnicmplaaDoorBSpN
import Derived.Test.YtpaieadnicmplaaDoorExSp
import Derived.Test.YtpaieadnicmplaaDoorL7
set_option linter.unusedVariables false
namespace Go.Proofs.YtpaieadnicmplaaDoor
open Go.RowKit Go.Lib

/-- The slices vs of block g read as the pieces dn. -/
def PcV (w : World) (g : Nat) (vs : List Value) (dn : List ByteArray) : Prop := vs.length = dn.length ∧ ∀ (j : Nat) (y : ByteArray), dn[j]? = some y → ∃ f cp, vs[j]? = some (Value.slice (some ⟨g, f, none⟩) y.size cp) ∧ Lib.Bytes w g f y
theorem PcV.nil (w : World) (g : Nat) : PcV w g [] [] := ⟨rfl, fun j y h => by simp at h⟩
theorem PcV.snoc {w : World} {g : Nat} {vs : List Value} {dn : List ByteArray} (h : PcV w g vs dn) {y : ByteArray} {f n cp : Nat} (hn : n = y.size) (hB : Lib.Bytes w g f y) : PcV w g (vs ++ [.slice (some ⟨g, f, none⟩) n cp]) (dn ++ [y]) := by
  subst hn
  obtain ⟨h1, h2⟩ := h
  refine ⟨by rw [List.length_append, List.length_append, h1]; rfl, fun j z hj => ?_⟩
  by_cases hlt : j < dn.length
  · rw [List.getElem?_append_left hlt] at hj
    obtain ⟨f', cp', e, hB'⟩ := h2 j z hj
    exact ⟨f', cp', by rw [List.getElem?_append_left (by omega)]; exact e, hB'⟩
  · rw [List.getElem?_append_right (by omega)] at hj
    have hz : j - dn.length = 0 := by
      rcases Nat.eq_zero_or_pos (j - dn.length) with h | h
      · exact h
      · rw [List.getElem?_eq_none (by simp; omega)] at hj; cases hj
    rw [hz] at hj
    cases hj
    exact ⟨f, cp, by rw [List.getElem?_append_right (by omega), h1, hz]; rfl, hB⟩
theorem PcV.bss {w W : World} {g B N : Nat} {vs : List Value} {dn : List ByteArray} (h : PcV w g vs dn) (hg : g < w.heap.size) (hb : Below w.heap.size w W) (hrow : W.heap[B]? = some (.cells (cellsOfV vs N) 23 (0, 0))) (hN : vs.length ≤ N) : BssAt W (.slice (some ⟨B, 0, none⟩) dn.length N) dn := by
  obtain ⟨h1, h2⟩ := h
  refine ⟨_, _, rfl, by omega, fun _ => ⟨B, 0, rfl, (Array.getElem?_eq_some_iff.1 hrow).1, fun j x hj => ?_⟩⟩
  obtain ⟨f, cp, e, hB⟩ := h2 j x hj
  have hj' := (List.getElem?_eq_some_iff.1 e).1
  refine ⟨g, f, cp, ?_, Nat.lt_of_lt_of_le hg hb.size, bytes_below hB hb hg⟩
  rw [Nat.zero_add, cell_of_row W B j _ _ _ hrow]
  unfold cellsOfV
  rw [List.getElem?_toArray, List.getElem?_append_left hj', e]
/-- What is still to be cut. -/
def ExI (s : ByteArray) (E a i : Nat) (dn : List ByteArray) : Prop := (a < s.size ∧ dn ++ piecesOf s 0 0 a (((starts s a).drop 1).take (E - 1 - i)) = expl s E) ∨ (a = s.size ∧ dn = expl s E)
theorem ExI.start (s : ByteArray) (E : Nat) (h1 : 1 ≤ s.size → 1 ≤ E) (h0 : s.size = 0 → E = 0) : ExI s E 0 0 [] := by
  by_cases h : s.size = 0
  · refine .inr ⟨h.symm, ?_⟩
    rw [h0 h, expl, if_pos rfl]
  · refine .inl ⟨by omega, ?_⟩
    rw [expl, if_neg (by have := h1 (by omega); omega)]; rfl
theorem ExI.last {s : ByteArray} {E a i : Nat} {dn : List ByteArray} (h : ExI s E a i dn) (ha : a < s.size) (hE : E ≤ i + 1) : dn ++ [s.extract a s.size] = expl s E := by
  rcases h with ⟨_, h⟩ | ⟨h, _⟩
  · rw [show E - 1 - i = 0 by omega, List.take_zero] at h
    exact h
  · omega
theorem ExI.step {s : ByteArray} {E a i K : Nat} {dn : List ByteArray} (h : ExI s E a i dn) (ha : a < s.size) (hK : K = (Utf8.decode s a).2) (hE : a + K < s.size → i + 1 < E) : ExI s E (a + K) (i + 1) (dn ++ [s.extract a (a + K)]) := by
  rcases h with ⟨_, h⟩ | ⟨h, _⟩
  · have hwe := decode_end s a ha
    rw [← hK] at hwe
    have hcons := starts_cons s a ha
    rw [← hK] at hcons
    rw [hcons, List.drop_succ_cons, List.drop_zero] at h
    by_cases hb : a + K < s.size
    · refine .inl ⟨hb, ?_⟩
      have := hE hb
      rw [starts_cons s (a + K) hb, show E - 1 - i = E - 1 - (i + 1) + 1 by omega, List.take_succ_cons] at h
      rw [starts_cons s (a + K) hb, List.drop_succ_cons, List.drop_zero, List.append_assoc]
      exact h
    · refine .inr ⟨by omega, ?_⟩
      rw [starts_end s (a + K) (by omega), List.take_nil] at h
      rw [show a + K = s.size by omega]
      exact h
  · omega
set_option maxRecDepth 100000 in
set_option maxHeartbeats 4000000 in
theorem gbExplode (s : ByteArray) (n : Int) (g c1 : Nat) (w : World) (hB : Lib.Bytes w g 0 s) (hg : g < w.heap.size) (hcap : s.size ≤ c1) (hs : s.size < 2147483648) (hn0 : n ≠ 0) (hlo : -9223372036854775808 ≤ n) (hhi : n ≤ 9223372036854775807) (hT : Tabs w) :
    Calls Tryd.prog 54 #[.slice (some ⟨g, 0, none⟩) s.size c1, .int .i64 n] w fun e W' => ∃ v, e = .returned v ∧ BssAt W' v (expl s (eN s n)) ∧ Below w.heap.size w W' := by
  have HT := Lib.hid hT
  have HBy := Lib.hid hB
  have hl := starts_len s s.size 0 (by omega)
  have hl1 : 1 ≤ s.size → 1 ≤ (starts s 0).length := fun h => by rw [starts_cons s 0 (by omega)]; simp
  obtain ⟨l, hld⟩ : ∃ l, l = (starts s 0).length := ⟨_, rfl⟩
  obtain ⟨E, hEd⟩ : ∃ E, E = eN s n := ⟨_, rfl⟩
  obtain ⟨N, hN⟩ : ∃ N : Nat, N = (if n ≤ 0 ∨ (s.size : Int) < n then s.size else n.toNat) := ⟨_, rfl⟩
  have hcase : (n ≤ 0 ∧ N = s.size ∧ E = l) ∨ (¬ n ≤ 0 ∧ (s.size : Int) < n ∧ N = s.size ∧ E = l) ∨ (¬ n ≤ 0 ∧ ¬ (s.size : Int) < n ∧ (N : Int) = n ∧ ((E = l ∧ E ≤ N) ∨ E = N)) := by
    by_cases h1 : n ≤ 0
    · exact .inl ⟨h1, by rw [hN, if_pos (.inl h1)], by rw [hEd, eN, if_pos (.inl (by omega)), hld]⟩
    · by_cases h2 : (s.size : Int) < n
      · exact .inr (.inl ⟨h1, h2, by rw [hN, if_pos (.inr h2)], by rw [hEd, eN, if_pos (.inr (by omega)), hld]⟩)
      · have e1 : N = n.toNat := by rw [hN, if_neg (by omega)]
        refine .inr (.inr ⟨h1, h2, by omega, ?_⟩)
        by_cases h3 : (l : Int) < n
        · have : E = l := by rw [hEd, eN, if_pos (.inr (by rw [← hld]; exact h3)), hld]
          exact .inl ⟨this, by omega⟩
        · exact .inr (by rw [hEd, eN, if_neg (by rw [← hld]; omega), e1])
  have hEl : E ≤ l := by rw [hEd, hld]; exact eN_le s n
  have hE1 : 1 ≤ s.size → 1 ≤ E := fun h => by have := hl1 h; omega
  have hE0 : s.size = 0 → E = 0 := fun h => by omega
  have hEN : E ≤ N := by omega
  have hNs : N ≤ s.size ∨ s.size = 0 := by omega
  have hN2 : N ≤ s.size := by omega
  have hN1 : 1 ≤ s.size → 1 ≤ N := fun h => by omega
  rw [← hEd]
  have HST := Lib.hid (ExI.start s E hE1 hE0)
  have HL := Lib.hid hld
  have HEN : Hid (E = l ∨ E = N) := Lib.hid (by omega)
  have HN1 := Lib.hid hN1
  clear hld hEd hN hB hT hE1 hE0 hl1 hNs hN1
  have hmk := run_make_row' (P := Tryd.prog) 38 23 (.slice none 0 0) 24 Tryd.underlying38 bsInfo rfl .i64 .i64 N (by omega) (by omega)
  rcases hcase with ⟨h1, hNe, _⟩ | ⟨h1, h2, hNe, _⟩ | ⟨h1, h2, hNe, _⟩
  case' inl =>
    rw [← hNe]
    have hcapN : N ≤ c1 := by omega
    have h1' : decide (n ≤ 0) = true := decide_eq_true h1
  case' inr.inl =>
    rw [← hNe] at h2 ⊢
    have hcapN : N ≤ c1 := by omega
    have hd0 : decide (n ≤ 0) = false := decide_eq_false h1
    have hd1 : decide ((N : Int) < n) = true := decide_eq_true h2
  case' inr.inr =>
    subst hNe
    have hcapN : s.size ≤ c1 := hcap
    have hNe : True := trivial
    have hd0 : decide ((N : Int) ≤ 0) = false := decide_eq_false h1
    have hd1 : decide ((s.size : Int) < (N : Int)) = false := decide_eq_false h2
    have hd2 : decide (s.size < N) = false := decide_eq_false (by omega)
  all_goals
    have hrow0 : (w.alloc (.cells (madeCells #[.slice none 0 0] N) 23)).heap[w.heap.size]? = some (.cells (cellsOfV [] N) 23 (0, 0)) := by rw [cellsOfV_nil]; exact heap_alloc_last' _ _
    have HR0 := Lib.hid hrow0
    have HB0 : Hid (Below w.heap.size w (w.alloc (.cells (madeCells #[.slice none 0 0] N) 23))) := Lib.hid ((Below.refl _ w).alloc (Nat.le_refl _) _)
    have HNe := Lib.hid hNe
    clear hrow0 hNe
    go_enter Tryd.func54, Tryd.ntmps54
    go_wp2_with fail
    clear hmk
    go_loopw [0, 7] (fun sv iv wx => ∃ (a i o cp ln : Nat) (vs : List Value) (dn : List ByteArray), sv = .slice (some ⟨g, o, none⟩) ln cp ∧ iv = .int .i64 i ∧ ln ≤ cp ∧ cp ≤ c1 ∧ a + ln = s.size ∧ i ≤ N ∧ (0 < ln → i < N) ∧ Hid (Lib.Bytes w g o (s.extract a s.size)) ∧ Hid (dn.length = i) ∧ Hid (vs.length = i) ∧ Hid (PcV w g vs dn) ∧ Hid ((starts s a).length + i = l) ∧ Hid (ExI s E a i dn) ∧ Hid (wx.heap[w.heap.size]? = some (.cells (cellsOfV vs N) 23 (0, 0))) ∧ Hid (Below w.heap.size w wx))
      (fun sv _ _ => match sv with | .slice _ ln _ => ln | _ => 0)
    case atStart => exact ⟨0, 0, 0, c1, _, [], [], rfl, rfl, hcapN, Nat.le_refl _, by have := HNe.out; omega, Nat.zero_le _, by have := HN1.out; have := HNe.out; omega, Lib.hid (by rw [ByteArray.extract_zero_size]; exact HBy.out), Lib.hid rfl, Lib.hid rfl, Lib.hid (PcV.nil _ _), Lib.hid (by rw [HL.out]; rfl), HST, HR0, HB0⟩
    case round =>
      obtain ⟨a, i, o, cp, ln, vs, dn, rfl, rfl, hcp, hcc, haln, hiN, hiN', HO, HD, HV, HP, HS, HX, HR, HB⟩ := hrel
      have hBlt : w.heap.size < wr.heap.size := (Array.getElem?_eq_some_iff.1 HR.out).1
      by_cases hln : ln = 0
      · subst hln
        have HF : Hid (dn = expl s E) := Lib.hid (by
          rcases HX.out with ⟨h, _⟩ | ⟨_, h⟩
          · omega
          · exact h)
        go_wp2_with fail
        go_ret
        refine ⟨_, rfl, ?_, HB.out⟩
        have := PcV.bss HP.out hg HB.out HR.out (by have := HV.out; omega)
        rw [HD.out, HF.out] at this
        exact this
      · have hlnz : ¬ ((ln : Int) = 0) := by omega
        have hln0 : (0 : Int) < (ln : Int) := by omega
        have ha : a < s.size := by omega
        have hxs : (s.extract a s.size).size = ln := by rw [ByteArray.size_extract]; omega
        have hiN1 : i < N := hiN' (by omega)
        have hnext : (cellsOfV vs N)[i]? = some (.slice none 0 0) := by rw [← HV.out]; exact cellsOfV_next (by have := HV.out; omega)
        by_cases hl1 : N ≤ i + 1
        · have hl2 : (N : Int) ≤ (i : Int) + 1 := by omega
          have cB : wr.cell? ⟨w.heap.size, i, none⟩ = some (.slice none 0 0) := (cell_of_row wr _ i _ _ _ HR.out).trans hnext
          have fB := frozen_of_row wr w.heap.size i _ _ HR.out
          have HF : Hid (dn ++ [s.extract a s.size] = expl s E) := Lib.hid (HX.out.last ha (by omega))
          clear hnext
          go_wp2_with fail
          go_ret
          refine ⟨_, rfl, ?_, HB.out.setCell (p := ⟨w.heap.size, i, none⟩) (Nat.le_refl _) _⟩
          have hP := HP.out.snoc (n := ln) (cp := cp) hxs.symm HO.out
          have := PcV.bss (W := wr.setCell ⟨w.heap.size, i, none⟩ (.slice (some ⟨g, o, none⟩) ln cp)) (N := N) hP hg (HB.out.setCell (p := ⟨w.heap.size, i, none⟩) (Nat.le_refl _) _) (by
            rw [heap_setCell_same wr _ i _ _ _ HR.out]
            rw [show i = vs.length from HV.out.symm, cellsOfV_set (by have := HV.out; omega)]) (by have := HV.out; simp; omega)
          rw [List.length_append, HD.out, HF.out] at this
          exact this
        · have hl2 : ¬ (N : Int) ≤ (i : Int) + 1 := by omega
          have hw1 := decode_width_pos s a ha
          have hwe := decode_end s a ha
          have hcD := dDecB (s.extract a s.size) g o cp wr (HT.out.below HB.out) (bytes_below HO.out HB.out hg)
          rw [decode_suffix s a ha, hxs] at hcD
          obtain ⟨K, hK⟩ : ∃ K, K = (Utf8.decode s a).2 := ⟨_, rfl⟩
          have hcons := starts_cons s a ha
          rw [← hK] at hw1 hwe hcD hcons
          have hKl : K ≤ ln := by omega
          have hS' : (starts s (a + K)).length + (i + 1) = l := by
            have := HS.out
            rw [hcons, List.length_cons] at this
            omega
          have HS' := Lib.hid hS'
          have HX' : Hid (ExI s E (a + K) (i + 1) (dn ++ [s.extract a (a + K)])) := Lib.hid (HX.out.step ha hK (fun hb => by
            have := hS'
            rw [starts_cons s (a + K) hb, List.length_cons] at this
            have := HEN.out
            omega))
          have HO1 : Hid (Lib.Bytes w g o (s.extract a (a + K))) := Lib.hid (by
            have := byt_to HO.out K (by omega)
            rw [x_to s a K hwe] at this
            exact this)
          have HP' := Lib.hid (HP.out.snoc (n := K) (cp := K) (by rw [ByteArray.size_extract]; omega) HO1.out)
          have HOn : Hid (Lib.Bytes w g (o + K) (s.extract (a + K) s.size)) := Lib.hid (by
            have := byt_from HO.out K (by omega)
            rw [x_from s a K hwe] at this
            exact this)
          have hlast : K < ln → i + 1 < N := fun _ => by omega
          have CD := Lib.hid hcD
          have HN := Lib.hid hnext
          have HLa := Lib.hid hlast
          clear hcD hcons hK hnext hxs hS' hlast
          go_wp2_with fail
          refine CD.out.mono ?_
          rintro e w2 ⟨rfl, hB2⟩
          have hh2 : w2.heap[w.heap.size]? = some (.cells (cellsOfV vs N) 23 (0, 0)) := (hB2.block _ hBlt).trans HR.out
          have HB2 : Hid (Below w.heap.size w w2) := HB.out.trans (hB2.mono HB.out.size)
          have cB : w2.cell? ⟨w.heap.size, i, none⟩ = some (.slice none 0 0) := (cell_of_row w2 _ i _ _ _ hh2).trans HN.out
          have fB := frozen_of_row w2 w.heap.size i _ _ hh2
          have HH2 := Lib.hid hh2
          clear hB2 hh2
          go_wp2_with fail
          obtain ⟨o', ho, hB'⟩ : ∃ o', (if cp = K then (some ⟨g, o, none⟩ : Option Addr) else some ⟨g, o + K, none⟩) = some ⟨g, o', none⟩ ∧ Lib.Bytes w g o' (s.extract (a + K) s.size) := by
            by_cases h : cp = K
            · rw [if_pos h]; exact ⟨o, rfl, byt_nil _ _ _ (by rw [ByteArray.size_extract]; omega)⟩
            · rw [if_neg h]; exact ⟨_, rfl, HOn.out⟩
          rw [ho]
          exact ⟨⟨a + K, i + 1, o', cp - K, ln - K, _, _, rfl, by first | rfl | go_num, by omega, by omega, by omega, by omega, by have := HLa.out; omega, Lib.hid hB', Lib.hid (by rw [List.length_append, HD.out]; rfl), Lib.hid (by rw [List.length_append, HV.out]; rfl), HP', HS', HX', Lib.hid (by
            rw [heap_setCell_same w2 _ i _ _ _ HH2.out]
            rw [show i = vs.length from HV.out.symm, cellsOfV_set (by have := HV.out; omega)]), Lib.hid (HB2.out.setCell (p := ⟨w.heap.size, i, none⟩) (Nat.le_refl _) _)⟩, by show ln - K < ln; omega⟩
end Go.Proofs.YtpaieadnicmplaaDoor

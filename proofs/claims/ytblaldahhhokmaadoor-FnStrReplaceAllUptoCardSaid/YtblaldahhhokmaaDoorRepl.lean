/- gostrings.Replace at an old text that is not empty (the shelf's walk turned to this program's copy by mkRepl.py). -/
import Derived.Test.YtblaldahhhokmaaDoorCnt
import Derived.Test.YtblaldahhhokmaaDoorSh
import Derived.Lib.ReplaceLaws
import Derived.Lib.SlicesS
import Derived.Deep.LoopGhost
set_option linter.unusedVariables false
namespace Go.Proofs.YtblaldahhhokmaaDoor
open Go.Shelf Go.RowKit Go.Lib

theorem hidR {p : Prop} (h : p) : Hid p := h
theorem gIndex' (s sep : ByteArray) (w : World) (hs : s.size < 4294967281) :
    Calls Tryd.prog 75 #[.string s, .string sep] w fun e w' => e = .returned (.int .i64 (Lib.index s.data.toList sep.data.toList)) ∧ w' = w :=
  (gIndex s sep w hs).mono fun _ _ ⟨he, hw⟩ => ⟨he, hw.symm⟩

set_option maxHeartbeats 16000000 in
set_option maxRecDepth 1000000 in
theorem gReplace_some (s old new : ByteArray) (n : Int) (w : World)
    (hs : s.size < 4294967281) (h1 : 1 ≤ old.size) (hne : old ≠ new) (hn0 : n ≠ 0) (hc0 : Lib.countB s old ≠ 0)
    (hlen : s.size + Lib.countB s old * new.size ≤ 140737488355328) :
    Calls Tryd.prog 62 #[.string s, .string old, .string new, .int .i64 n] w fun e w' =>
      e = .returned (.string ⟨(Lib.replaceK old.data.toList new.data.toList (Lib.replaceNum s.data.toList old.data.toList n) s.data.toList).toArray⟩) ∧ Below w.heap.size w w' := by
  have hC := gCount s old w hs h1
  have hmul := Lib.countB_mul_le old h1 s.size s (Nat.le_refl _)
  obtain ⟨K, hK⟩ : ∃ K : Nat, Lib.replaceNum s.data.toList old.data.toList n = K := ⟨_, rfl⟩
  rw [hK]
  obtain ⟨cn, hcn⟩ : ∃ cn : Nat, Lib.countB s old = cn := ⟨_, rfl⟩
  rw [hcn] at hC hlen hc0 hmul
  have hcn' : Lib.count s.data.toList old.data.toList = cn := hcn
  have hbeq : (old.toList == new.toList) = false := (Lib.bytes_beq_false_iff old new).2 hne
  have hnz : (n == 0) = false := beq_eq_false_iff_ne.2 hn0
  have hcz : ((cn : Int) == 0) = false := beq_eq_false_iff_ne.2 (by omega)
  have ho0 : (0 : Int) < (old.size : Int) := by omega
  have hlenL : s.data.toList.length = s.size := (Lib.size_eq s).symm
  have hlenO : old.data.toList.length = old.size := (Lib.size_eq old).symm
  -- K, whichever way it is come by
  have hK1 : 1 ≤ K ∧ K ≤ cn ∧ ((n < 0 ∨ (cn : Int) < n) → K = cn) ∧ (¬ (n < 0 ∨ (cn : Int) < n) → n = (K : Int)) := by
    unfold Lib.replaceNum at hK
    rw [hcn'] at hK
    by_cases hcase : n < 0 ∨ (cn : Int) < n
    · rw [if_pos hcase] at hK
      exact ⟨by omega, by omega, fun _ => hK.symm, fun h => absurd hcase h⟩
    · rw [if_neg hcase] at hK
      exact ⟨by omega, by omega, fun h => absurd h hcase, fun _ => by omega⟩
  obtain ⟨hK1, hKc, hKa, hKb⟩ := hK1
  have hKo : K * old.size ≤ s.size := Nat.le_trans (Nat.mul_le_mul_right _ hKc) hmul
  have hKs : K ≤ s.size := Nat.le_trans (Nat.le_mul_of_pos_right K (by omega)) hKo
  have hKn : s.size + K * new.size ≤ 140737488355328 := by have := Nat.mul_le_mul_right new.size hKc; omega
  have hga := Lib.grow_arg s.size K new.size old.size hK1 hKo hKn
  have hKcount : K ≤ Lib.count (s.data.toList.drop 0) old.data.toList := by rw [List.drop_zero, hcn']; exact hKc
  clear hK hcn hcn' hmul hlen
  -- slot 3 holds K, whichever way it is come by: SETTLED AHEAD OF THE WALK
  have hdisj : (K = cn ∧ (n < 0 ∨ (cn : Int) < n)) ∨ (n = (K : Int) ∧ ¬ (n < 0 ∨ (cn : Int) < n)) := by
    by_cases hcase : n < 0 ∨ (cn : Int) < n
    · exact Or.inl ⟨hKa hcase, hcase⟩
    · exact Or.inr ⟨hKb hcase, hcase⟩
  clear hKa hKb
  -- (✋ as a Boolean equation, AHEAD of the walk: so that the frame bears 'true' at the loop's head already: else the round's end does not meet the relation's frame: slot 51)
  have hod : decide (0 < old.size) = true := decide_eq_true (by omega)
  rcases hdisj with ⟨rfl, hcase⟩ | ⟨rfl, hcase⟩
  all_goals (
    go_enter Tryd.func62, Tryd.ntmps62
    go_wp2_with (first | (go_at_call 74; refine hC.mono ?_; rintro e w' ⟨rfl, hw⟩; rw [hw]))
    all_goals (
    clear hC
    try rw [hga]
    refine (bGrow w.heap.size w.heap.size _ _ (Nat.le_refl _) (heap_alloc_new w _) (by simp) (by omega)).mono ?_
    rintro e w1 ⟨rfl, hb0, hb1⟩
    have H1 := hidR (Or.inr hb0 : Lib.IsBuilder 64 5 w.heap.size w.heap.size (Lib.byteCells []) w1)
    have Hb1 := hidR (((Below.refl w.heap.size w).alloc (Nat.le_refl _) _).trans hb1)
    clear hb0 hb1 hga
    go_wp2_with fail
    go_loopg [11, 53] K (fun g s11 s53 wx => ∃ (i start : Nat) (acc : List UInt8), s53 = .int .i64 i ∧ s11 = .int .i64 start ∧ i + g = K ∧ start ≤ s.size ∧
      Hid (Lib.IsBuilder 64 5 w.heap.size w.heap.size (Lib.byteCells acc) wx) ∧ Hid (Below w.heap.size w wx) ∧ Hid (acc ++ Lib.replaceK old.data.toList new.data.toList g (s.data.toList.drop start) = Lib.replaceK old.data.toList new.data.toList K s.data.toList) ∧
      g ≤ Lib.count (s.data.toList.drop start) old.data.toList ∧ acc.length + (s.size - start) + g * new.size ≤ s.size + K * new.size)
    case atStart => exact ⟨0, 0, [], rfl, rfl, by omega, Nat.zero_le _, H1, Hb1, hidR (by simp), hKcount, by simp⟩
    case round =>
      obtain ⟨i, start, acc, rfl, rfl, hig, hst, HB, HW, HR, hgc, hbd⟩ := hrel
      have hBw : w.heap.size ≤ wr.heap.size := HW.out.size
      have c1 : (0 : Int) ≤ (start : Int) := by omega
      have c2 : (start : Int) ≤ (s.size : Int) := by omega
      cases gk with
      | zero =>
        -- all K are replaced: 'b.WriteString(s[start:]); return b.String()'
        have hiK : ¬ ((i : Int) < (K : Int)) := by omega
        go_wp2_with fail
        refine (bWriteString w.heap.size w.heap.size _ _ wr HB.out (by rw [Lib.byteCells_length, ByteArray.size_extract]; omega) hBw).mono ?_
        rintro e w3 ⟨rfl, h3, hb3⟩
        rw [Lib.strCells_eq, Lib.extract_to_end, ← Lib.byteCells_append] at h3
        have hfin : acc ++ s.data.toList.drop start = Lib.replaceK old.data.toList new.data.toList K s.data.toList := HR.out
        rw [hfin] at h3
        have H3 := hidR (Or.inr h3 : Lib.IsBuilder 64 5 w.heap.size w.heap.size _ w3)
        have Hb3 := hidR (HW.out.trans hb3)
        have hBw3 : w.heap.size ≤ w3.heap.size := Hb3.out.size
        clear h3 hb3 hfin
        go_wp2_with fail
        refine (bString w.heap.size w.heap.size _ w3 H3.out hBw3).mono ?_
        rintro e w5 ⟨rfl, hb5⟩
        have Hb5 := hidR (Hb3.out.trans hb5)
        clear hb5
        go_wp2
        go_ret
        exact ⟨rfl, Hb5.out⟩
      | succ g =>
        have hiK : (i : Int) < (K : Int) := by omega
        obtain ⟨j, hj⟩ := Lib.index_of_count (s := s.data.toList.drop start) (old := old.data.toList) (by omega)
        have hroom : j + old.size ≤ s.size - start := by
          have := Lib.index_room (s.data.toList.drop start) old.data.toList (by rw [hj]; omega)
          rw [hj, List.length_drop, hlenL, hlenO] at this
          omega
        have hsucc : (g + 1) * new.size = g * new.size + new.size := Nat.succ_mul _ _
        have c3 : (start : Int) ≤ (start : Int) + (j : Int) := by omega
        have c4 : (start : Int) + (j : Int) ≤ (s.size : Int) := by omega
        have hnext : Lib.byteCells acc ++ Lib.strCells (s.extract start (start + j)) ++ Lib.strCells new = Lib.byteCells (acc ++ (s.data.toList.drop start).take j ++ new.data.toList) := by
          rw [Lib.strCells_eq, Lib.strCells_eq, Lib.extract_data, Nat.add_sub_cancel_left, ← Lib.byteCells_append, ← Lib.byteCells_append]
        have hrep : (acc ++ (s.data.toList.drop start).take j ++ new.data.toList) ++ Lib.replaceK old.data.toList new.data.toList g (s.data.toList.drop (start + j + old.size)) = Lib.replaceK old.data.toList new.data.toList K s.data.toList := by
          rw [← HR.out, Lib.replaceK_hit _ _ g _ j hj, List.drop_drop, hlenO]
          simp only [List.append_assoc, Nat.add_assoc]
        have hcnt : g ≤ Lib.count (s.data.toList.drop (start + j + old.size)) old.data.toList := by
          have := Lib.count_hit (s := s.data.toList.drop start) (sub := old.data.toList) (i := j) (fun e => by rw [e] at hlenO; simp at hlenO; omega) hj
          rw [List.drop_drop, hlenO] at this
          rw [show start + j + old.size = start + (j + old.size) by omega]
          omega
        have htl : ((s.data.toList.drop start).take j).length = j := by rw [List.length_take, List.length_drop, hlenL]; omega
        have Hn := hidR hnext
        have Hrep := hidR hrep
        clear hnext hrep HR
        go_wp2_with (first | (go_at_call 75; refine (gIndex' _ _ _ (by rw [ByteArray.size_extract]; omega)).mono ?_; rintro e w' ⟨rfl, hw⟩; rw [hw, Lib.extract_to_end, hj]))
        refine (bWriteString w.heap.size w.heap.size _ (s.extract start (start + j)) wr HB.out (by rw [Lib.byteCells_length, ByteArray.size_extract]; omega) hBw).mono ?_
        rintro e w3 ⟨rfl, h3, hb3⟩
        have hBw3 : w.heap.size ≤ w3.heap.size := Nat.le_trans hBw hb3.size
        have H3 := hidR h3
        have Hb3 := hidR hb3
        clear h3 hb3
        go_wp2_with fail
        refine (bWriteString w.heap.size w.heap.size _ new w3 (Or.inr H3.out) (by rw [List.length_append, Lib.byteCells_length, Lib.strCells_length, ByteArray.size_extract]; omega) hBw3).mono ?_
        rintro e w4 ⟨rfl, h4, hb4⟩
        rw [Hn.out] at h4
        have H4 := hidR (Or.inr h4 : Lib.IsBuilder 64 5 w.heap.size w.heap.size _ w4)
        have Hb4 := hidR ((HW.out.trans Hb3.out).trans hb4)
        clear h4 hb4
        go_wp2
        go_roundg g
        case measure => omega
        case rel => exact ⟨i + 1, start + j + old.size, _, by first | rfl | (simp; unfold wrap64; omega), by first | rfl | simp | (simp; unfold wrap64; omega), by omega, by omega, H4, Hb4, Hrep, hcnt, by simp only [List.length_append, htl, ← Lib.size_eq]; omega⟩))

set_option maxHeartbeats 4000000 in
set_option maxRecDepth 1000000 in
theorem gReplace_none (s old new : ByteArray) (n : Int) (w : World) (h : old = new ∨ n = 0) :
    Calls Tryd.prog 62 #[.string s, .string old, .string new, .int .i64 n] w fun e w' => e = .returned (.string s) ∧ w' = w := by
  by_cases he : old = new
  · have hbeq : (old.toList == new.toList) = true := (Lib.bytes_beq_iff old new).2 he
    go_enter Tryd.func62, Tryd.ntmps62
    go_wp2
    go_ret
    exact ⟨rfl, rfl⟩
  · have hbeq : (old.toList == new.toList) = false := (Lib.bytes_beq_false_iff old new).2 he
    obtain rfl : n = 0 := h.resolve_left he
    go_enter Tryd.func62, Tryd.ntmps62
    go_wp2
    go_ret
    exact ⟨rfl, rfl⟩

set_option maxHeartbeats 4000000 in
set_option maxRecDepth 1000000 in
theorem gReplace_absent (s old new : ByteArray) (n : Int) (w : World)
    (hs : s.size < 4294967281) (h1 : 1 ≤ old.size) (hne : old ≠ new) (hn0 : n ≠ 0) (hc0 : Lib.countB s old = 0) :
    Calls Tryd.prog 62 #[.string s, .string old, .string new, .int .i64 n] w fun e w' => e = .returned (.string s) ∧ w' = w := by
  have hC := gCount s old w hs h1
  rw [hc0] at hC
  have hbeq : (old.toList == new.toList) = false := (Lib.bytes_beq_false_iff old new).2 hne
  have hnz : (n == 0) = false := beq_eq_false_iff_ne.2 hn0
  go_enter Tryd.func62, Tryd.ntmps62
  go_wp2_with (first | (go_at_call 74; refine hC.mono ?_; rintro e w' ⟨rfl, hw⟩; rw [hw]))
  go_ret
  exact ⟨rfl, rfl⟩

theorem gReplace (s old new : ByteArray) (n : Int) (w : World)
    (hs : s.size < 4294967281) (h1 : 1 ≤ old.size) (hlen : s.size + Lib.countB s old * new.size ≤ 140737488355328) :
    Calls Tryd.prog 62 #[.string s, .string old, .string new, .int .i64 n] w fun e w' =>
      e = .returned (.string ⟨(Lib.replace s.data.toList old.data.toList new.data.toList n).toArray⟩) ∧ Below w.heap.size w w' := by
  by_cases he : old = new
  · refine (gReplace_none s old new n w (Or.inl he)).mono fun e w' ⟨h1', h2'⟩ => ⟨?_, h2' ▸ Below.refl _ _⟩
    rw [h1', Lib.replace, he, if_pos (by simp), Lib.mk_data]
  have hb : (old.data.toList == new.data.toList) = false := by
    have := (Lib.bytes_beq_false_iff old new).2 he
    rwa [Lib.toList_data, Lib.toList_data] at this
  rw [Lib.replace, if_neg (by rw [hb]; exact Bool.false_ne_true)]
  by_cases hn0 : n = 0
  · refine (gReplace_none s old new n w (Or.inr hn0)).mono fun e w' ⟨h1', h2'⟩ => ⟨?_, h2' ▸ Below.refl _ _⟩
    have e0 : Lib.replaceNum s.data.toList old.data.toList n = 0 := by
      subst hn0
      unfold Lib.replaceNum
      rw [if_neg (by omega)]
      rfl
    rw [h1', e0, Lib.replaceK, Lib.mk_data]
  by_cases hc0 : Lib.countB s old = 0
  · refine (gReplace_absent s old new n w hs h1 he hn0 hc0).mono fun e w' ⟨h1', h2'⟩ => ⟨?_, h2' ▸ Below.refl _ _⟩
    have hc0' : Lib.count s.data.toList old.data.toList = 0 := hc0
    have e0 : Lib.replaceNum s.data.toList old.data.toList n = 0 := by
      unfold Lib.replaceNum
      rw [hc0', if_pos (by omega)]
    rw [h1', e0, Lib.replaceK, Lib.mk_data]
  · exact gReplace_some s old new n w hs h1 he hn0 hc0 hlen
end Go.Proofs.YtblaldahhhokmaaDoor

/- SeReplaced at all places; gostrings.Replace at the empty old text; StrReplaceAll. -/
import Derived.Test.YtblaldahhhokmaaDoorReplL
import Derived.Test.YtblaldahhhokmaaDoorRepl
set_option linter.unusedVariables false
namespace Go.Proofs.YtblaldahhhokmaaDoor
open Go.RowKit Go.Lib

def replB (s nw : ByteArray) (sl a : Nat) (l : List Nat) : ByteArray := ⟨(replAt s nw.data.toList sl a l).toArray⟩
theorem replB_list (s nw : ByteArray) (sl a : Nat) (l : List Nat) : (replB s nw sl a l).data.toList = replAt s nw.data.toList sl a l := by simp [replB]
theorem b_eq {a b : ByteArray} (h : a.data.toList = b.data.toList) : a = b := ByteArray.ext (Array.toList_inj.1 h)
theorem app_list (a b : ByteArray) : (a ++ b).data.toList = a.data.toList ++ b.data.toList := by simp [ByteArray.data_append]

/-- The reference's loop over places: what is told of it at each round. -/
def AccOk (s nw : ByteArray) (sl : Nat) (tot : List UInt8) (acc : ByteArray) (a : Nat) (l : List Nat) : Prop := acc.data.toList ++ replAt s nw.data.toList sl a l = tot ∧ okB s sl a l
theorem size_l (a : ByteArray) : a.size = a.data.toList.length := Lib.size_eq a
theorem AccOk.room {s nw : ByteArray} {sl : Nat} {tot : List UInt8} {acc : ByteArray} {a u : Nat} {l : List Nat} (h : AccOk s nw sl tot acc a (u :: l)) : acc.size + ((u - a) + nw.size) ≤ tot.length ∧ u ≤ s.size := by
  obtain ⟨h1, h2, h3, h4⟩ := h
  refine ⟨?_, by omega⟩
  have := congrArg List.length h1
  have hl : s.data.toList.length = s.size := (size_l s).symm
  simp only [replAt, List.length_append, List.length_take, List.length_drop, hl] at this
  rw [size_l acc, size_l nw]
  omega
theorem AccOk.room' {s nw : ByteArray} {sl : Nat} {tot : List UInt8} {acc : ByteArray} {a : Nat} (h : AccOk s nw sl tot acc a []) : acc.size + (s.size - a) ≤ tot.length := by
  obtain ⟨h1, h2⟩ := h
  have := congrArg List.length h1
  have hl : s.data.toList.length = s.size := (size_l s).symm
  simp only [replAt, List.length_append, List.length_drop, hl] at this
  rw [size_l acc]
  omega
theorem AccOk.step {s nw : ByteArray} {sl : Nat} {tot : List UInt8} {acc : ByteArray} {a u : Nat} {l : List Nat} (h : AccOk s nw sl tot acc a (u :: l)) : a ≤ u ∧ u + sl ≤ s.size ∧ AccOk s nw sl tot (acc ++ (s.extract a u ++ nw)) (u + sl) l := by
  obtain ⟨h1, h2, h3, h4⟩ := h
  refine ⟨h2, h3, ?_, h4⟩
  rw [app_list, app_list, extract_data, ← h1]
  simp [replAt]
theorem AccOk.done {s nw : ByteArray} {sl : Nat} {tot : List UInt8} {acc : ByteArray} {a : Nat} (h : AccOk s nw sl tot acc a []) : a ≤ s.size ∧ (acc ++ s.extract a s.size).data.toList = tot := by
  obtain ⟨h1, h2⟩ := h
  refine ⟨h2, ?_⟩
  rw [app_list, x_list]; exact h1

set_option maxRecDepth 100000 in
set_option maxHeartbeats 4000000 in
theorem SeReplaced_sep (s old new : ByteArray) (w : World) (hs : s.size < 2147483648) (hp : old.size < 2147483648) (h1 : 1 ≤ old.size) (hlen : (replAt s new.data.toList old.size 0 (brk s old 0 (s.size + 1))).length ≤ 140737488355328) :
    Calls Tryd.prog 28 #[.string s, .string old, .string new, .int .i64 (-1)] w fun e W' => e = .returned (.string (replB s new old.size 0 (brk s old 0 (s.size + 1)))) ∧ Below w.heap.size w W' := by
  have hne := neS (c := old) h1
  have hAcc : AccOk s new old.size (replAt s new.data.toList old.size 0 (brk s old 0 (s.size + 1))) ByteArray.empty 0 (brk s old 0 (s.size + 1)) := ⟨by simp, okB_brk s old h1 (s.size + 1) 0 _ (by omega) (Nat.zero_le _) 0 (Nat.le_refl _)⟩
  have hlim : lim s (-1) = s.size + 1 := by rw [lim, if_pos (by decide)]
  have hCB := SeBreaks_sep s old (-1) w hs hp h1 (by decide)
  rw [hlim] at hCB
  have hll := brk_len s old h1 (s.size + 1) 0 (s.size + 1) (by omega)
  obtain ⟨xs, hxs⟩ : ∃ xs, xs = brk s old 0 (s.size + 1) := ⟨_, rfl⟩
  rw [← hxs] at hAcc hCB hll hlen ⊢
  obtain ⟨tot, htot⟩ : ∃ tot, tot = replAt s new.data.toList old.size 0 xs := ⟨_, rfl⟩
  rw [← htot] at hAcc hlen
  have HT : Hid ((replB s new old.size 0 xs).data.toList = tot) := by show _ = _; rw [replB_list, htot]
  have HA := Lib.hid hAcc
  have HCB := Lib.hid hCB
  clear hxs htot hAcc hCB hlim
  go_enter Tryd.func28, Tryd.ntmps28
  go_wp2_with fail
  refine HCB.out.mono ?_
  rintro e w1 ⟨v, rfl, hI, hB1⟩
  obtain ⟨A, cp, rfl, hc, hx⟩ := hI
  have HX := Lib.hid hx
  have HB1 := Lib.hid hB1
  clear hx hB1 HCB
  go_wp2_with fail
  go_loop [9, 10, 55] (fun ov fv iv => ∃ (k a : Nat) (acc : ByteArray), k ≤ xs.length ∧ ov = .string acc ∧ fv = .int .i64 a ∧ iv = .int .i64 k ∧ Hid (AccOk s new old.size tot acc a (xs.drop k))) (fun _ _ iv => xs.length - (RowKit.intOf iv).toNat)
  case atStart => exact ⟨0, 0, ByteArray.empty, Nat.zero_le _, rfl, rfl, rfl, HA⟩
  case round =>
    obtain ⟨k, a, acc, hk, rfl, rfl, rfl, hacc⟩ := hrel
    by_cases hlt : k < xs.length
    · obtain ⟨u, hu⟩ : ∃ u, xs[k]? = some u := ⟨xs[k], List.getElem?_eq_getElem hlt⟩
      obtain ⟨g, o, rfl, hg', hcell⟩ := HX.out (by rintro rfl; simp at hlt)
      have hcu := hcell k u hu
      have hd : xs.drop k = u :: xs.drop (k + 1) := by
        rw [List.drop_eq_getElem_cons hlt]
        rw [List.getElem?_eq_getElem hlt] at hu
        rw [Option.some.inj hu]
      have hst := hacc.out
      rw [hd] at hst
      obtain ⟨q1, q2, q3⟩ := hst.step
      obtain ⟨r1, r2⟩ := hst.room
      have HQ := Lib.hid q3
      clear hcell hu hd hst q3
      go_wp2_with fail
      go_round
      case rel => exact ⟨k + 1, u + old.size, _, by omega, rfl, by go_num, by go_num, HQ⟩
      case measure => simp [RowKit.intOf]; omega
    · have hd := hacc.out
      rw [List.drop_eq_nil_of_le (by omega)] at hd
      obtain ⟨q1, q2⟩ := hd.done
      have r1 := hd.room'
      have HQ := Lib.hid q2
      clear hd q2
      go_wp2_with fail
      go_ret
      exact ⟨ret_str (b_eq (HQ.out.trans HT.out.symm)), HB1.out⟩

theorem okB_all (s : ByteArray) : ∀ n a, s.size - a ≤ n → ∀ b, b ≤ a → a ≤ s.size → okB s 0 b (starts s a ++ [s.size])
  | n, a, hn, b, hb, hbs => by
    by_cases ha : a < s.size
    · have hw := decode_width_pos s a ha
      have he := decode_end s a ha
      rw [starts_cons s a ha]
      match n, hn with
      | 0, hn => omega
      | n + 1, hn => exact ⟨hb, by omega, okB_all s n (a + (Utf8.decode s a).2) (by omega) (a + 0) (by omega) he⟩
    · rw [starts_end s a (by omega)]; exact ⟨by omega, by omega, by show s.size + 0 ≤ s.size; omega⟩

set_option maxRecDepth 100000 in
set_option maxHeartbeats 4000000 in
theorem SeReplaced_empty (s new : ByteArray) (w : World) (hs : s.size < 2147483648) (hlen : (replAt s new.data.toList 0 0 (starts s 0 ++ [s.size])).length ≤ 140737488355328) :
    Calls Tryd.prog 28 #[.string s, .string ByteArray.empty, .string new, .int .i64 (-1)] w fun e W' => e = .returned (.string (replB s new 0 0 (starts s 0 ++ [s.size]))) ∧ Below w.heap.size w W' := by
  obtain ⟨i0, hi, hz0, hz1, hz2⟩ := info_parts int_info
  have hAcc : AccOk s new 0 (replAt s new.data.toList 0 0 (starts s 0 ++ [s.size])) ByteArray.empty 0 (starts s 0 ++ [s.size]) := ⟨by simp, okB_all s s.size 0 (by omega) 0 (Nat.le_refl _) (Nat.zero_le _)⟩
  have hll := starts_len s s.size 0 (by omega)
  have hCS := SeStarts_own s w (by omega)
  obtain ⟨ys, hys⟩ : ∃ ys, ys = starts s 0 := ⟨_, rfl⟩
  rw [← hys] at hAcc hCS hll hlen ⊢
  obtain ⟨xs, hxs⟩ : ∃ xs, xs = ys ++ [s.size] := ⟨_, rfl⟩
  have hxl : xs.length = ys.length + 1 := by rw [hxs]; simp
  have HXs : Hid (ints ys ++ [.int .i64 (s.size : Int)] = ints xs) := by show _ = _; rw [hxs]; simp [ints]
  rw [← hxs] at hAcc hlen ⊢
  obtain ⟨tot, htot⟩ : ∃ tot, tot = replAt s new.data.toList 0 0 xs := ⟨_, rfl⟩
  rw [← htot] at hAcc hlen
  have HT : Hid ((replB s new 0 0 xs).data.toList = tot) := by show _ = _; rw [replB_list, htot]
  have HA := Lib.hid hAcc
  have HCS := Lib.hid hCS
  have HXL := Lib.hid hxl
  have hm : ys.length + 1 ≤ maxLen := by unfold maxLen; omega
  clear hxs htot hAcc hCS hys hxl
  go_enter Tryd.func28, Tryd.ntmps28
  go_wp2_with fail
  refine HCS.out.mono ?_
  rintro e w1 ⟨v, rfl, ho, hB1⟩
  have HR := Lib.hid ho
  have HB1 := Lib.hid hB1
  have hBs := hB1.size
  clear ho hB1 HCS
  go_wp2_with (at_builtin; refine wpList_append_own _ rfl _ _ 43 rfl w.heap.size 3 i0 (.int .i64 0) 1 8 Tryd.underlying43 hi hz0 hz1 hz2 rfl (by decide) _ _ _ rfl (HR.out.alloc _) ⟨w1.heap.size, 0, none⟩ 1 1 [.int .i64 (s.size : Int)] rfl rfl (cell_one_new _ _ _) (by simp [Value.oneCell']) hm (by omega) (by simp; omega) ?_; intro v' w2 hown' hgrow _; have hB2 : Below w.heap.size w w2 := (HB1.out.alloc hBs _).grown hgrow (by simp; omega) (fun j ej => (HR.out.lt j ej).1); rw [HXs.out] at hown'; obtain ⟨g', cap', rfl⟩ := ownsRow_succ hown'; have HO := Lib.hid hown'; have HB2 := Lib.hid hB2; clear hown' hgrow hB2)
  have HX : Hid (∀ (j u : Nat), xs[j]? = some u → w2.cell? ⟨g', j, none⟩ = some (.int .i64 (u : Int))) := Lib.hid (by
    have h2 : w2.ownsRow w.heap.size 3 1 (.slice (some ⟨g', 0, none⟩) (ys.length + 1) cap') xs.length (ints xs) := by rw [HXL.out]; exact HO.out
    obtain ⟨A, cp, e, _, hx⟩ := IntsAt.of_own h2
    obtain ⟨g, o, eA, _, hcell⟩ := hx (by intro e; have := HXL.out; rw [e] at this; simp at this)
    rw [HXL.out] at e
    cases e
    cases eA
    intro j u hu
    have := hcell j u hu
    rwa [Nat.zero_add] at this)
  go_loop [3, 9, 10, 24] (fun nv ov fv iv => ∃ (k a : Nat) (acc : ByteArray), k ≤ ys.length + 1 ∧ nv = .int .i64 (-1 - (k : Int)) ∧ ov = .string acc ∧ fv = .int .i64 a ∧ iv = .int .i64 k ∧ Hid (AccOk s new 0 tot acc a (xs.drop k))) (fun _ _ _ iv => ys.length + 1 - (RowKit.intOf iv).toNat)
  case atStart => exact ⟨0, 0, ByteArray.empty, Nat.zero_le _, rfl, rfl, rfl, rfl, HA⟩
  case round =>
    obtain ⟨k, a, acc, hk, rfl, rfl, rfl, rfl, hacc⟩ := hrel
    by_cases hlt : k < ys.length + 1
    · have hlt' : k < xs.length := by rw [HXL.out]; exact hlt
      obtain ⟨u, hu⟩ : ∃ u, xs[k]? = some u := ⟨xs[k], List.getElem?_eq_getElem hlt'⟩
      have hcu := HX.out k u hu
      have hd : xs.drop k = u :: xs.drop (k + 1) := by
        rw [List.drop_eq_getElem_cons hlt']
        rw [List.getElem?_eq_getElem hlt'] at hu
        rw [Option.some.inj hu]
      have hst := hacc.out
      rw [hd] at hst
      obtain ⟨q1, q2, q3⟩ := hst.step
      obtain ⟨r1, r2⟩ := hst.room
      have HQ := Lib.hid q3
      have hn0 : ((-1 - (k : Int)) == 0) = false := beq_eq_false_iff_ne.2 (by omega)
      clear hu hd hst q3 hlt'
      go_wp2_with fail
      go_round
      case rel => exact ⟨k + 1, u, _, by omega, by go_num, rfl, rfl, by go_num, HQ⟩
      case measure => simp [RowKit.intOf]; omega
    · have hd := hacc.out
      rw [List.drop_eq_nil_of_le (by rw [HXL.out]; omega)] at hd
      obtain ⟨q1, q2⟩ := hd.done
      have r1 := hd.room'
      have HQ := Lib.hid q2
      clear hd q2
      go_wp2_with fail
      go_ret
      exact ⟨ret_str (b_eq (HQ.out.trans HT.out.symm)), HB2.out⟩
end Go.Proofs.YtblaldahhhokmaaDoor

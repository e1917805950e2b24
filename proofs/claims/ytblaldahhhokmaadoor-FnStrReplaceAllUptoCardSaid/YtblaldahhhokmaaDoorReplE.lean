/- gostrings.Replace at the empty old text; ReplaceAll; StrReplaceAll. -/
import Derived.Test.YtblaldahhhokmaaDoorSeRep
set_option linter.unusedVariables false
namespace Go.Proofs.YtblaldahhhokmaaDoor
open Go.Shelf Go.RowKit Go.Lib

theorem builderAt_below {T e : TypeId} {B b : Nat} {p : Value} {bs : List Value} {W W' : World} (h : Lib.BuilderAt T e B b p bs W) (hb : Below W.heap.size W W') : Lib.BuilderAt T e B b p bs W' := by
  have hlt := h.lt
  obtain ⟨hB, v, hv, hown, hne⟩ := h
  exact ⟨hB, v, (hb.block b hlt).trans hv, hown.kept (row := none) ⟨hb.os, hb.tape, hb.output, hb.size, fun k hk _ => hb.block k hk⟩ (Classical.em _), hne⟩
theorem isBuilder_below {T e : TypeId} {B b : Nat} {bs : List Value} {W W' : World} (h : Lib.IsBuilder T e B b bs W) (hb : Below W.heap.size W W') : Lib.IsBuilder T e B b bs W' :=
  h.elim (fun x => .inl (builderAt_below x hb)) (fun x => .inr (builderAt_below x hb))

set_option maxHeartbeats 1000000 in
theorem gCount_empty (s : ByteArray) (w : World) (hs : s.size < 2147483648) :
    Calls Tryd.prog 74 #[.string s, .string ByteArray.empty] w fun e w' => e = .returned (.int .i64 ((starts s 0).length + 1 : Nat)) ∧ Below w.heap.size w w' := by
  have HC := Lib.hid (dCount s w (by omega))
  have hl := starts_len s s.size 0 (by omega)
  rw [runeCount_starts] at HC
  go_enter Tryd.func74, Tryd.ntmps74
  go_wp2_with (go_at_call 89; refine HC.out.mono ?_; rintro e w1 ⟨rfl, hB1⟩; have HB1 := Lib.hid hB1; clear hB1)
  go_ret
  exact ⟨by first | rfl | (refine ret_int ?_; omega), HB1.out⟩

theorem grow_argE (S L ns : Nat) (hb : S + (L + 1) * ns ≤ 140737488355328) :
    wrap64 ((S : Int) + wrap64 (((L : Int) + 1) * wrap64 (ns : Int))) = ((S + (L + 1) * ns : Nat) : Int) := by
  have hns : ns ≤ (L + 1) * ns := Nat.le_mul_of_pos_left ns (by omega)
  have e1 : wrap64 (ns : Int) = (ns : Int) := IntWalk.wrap64_in _ ⟨by omega, by omega⟩
  have e2 : ((L : Int) + 1) * (ns : Int) = (((L + 1) * ns : Nat) : Int) := by push_cast; rfl
  rw [e1, e2]
  generalize (L + 1) * ns = A at *
  rw [IntWalk.wrap64_in (A : Int) ⟨by omega, by omega⟩, IntWalk.wrap64_in _ ⟨by omega, by omega⟩]
  omega

set_option maxHeartbeats 16000000 in
set_option maxRecDepth 1000000 in
theorem gReplace_empty (s new : ByteArray) (w : World) (hs : s.size < 2147483648) (hn1 : 1 ≤ new.size) (hlen : s.size + ((starts s 0).length + 1) * new.size ≤ 140737488355328) (hT : Tabs w) :
    Calls Tryd.prog 62 #[.string s, .string ByteArray.empty, .string new, .int .i64 (-1)] w fun e w' => e = .returned (.string (replB s new 0 0 (starts s 0 ++ [s.size]))) ∧ Below w.heap.size w w' := by
  have HT := Lib.hid hT
  have hl := starts_len s s.size 0 (by omega)
  have hnem := neS (c := new) hn1
  have hbeq : (ByteArray.empty.toList == new.toList) = false := (Lib.bytes_beq_false_iff ByteArray.empty new).2 (fun e => by rw [← e] at hn1; simp at hn1)
  have HC := Lib.hid (gCount_empty s w hs)
  have hall := emR_all s new.data.toList
  have hlE := emR_len s new.data.toList s.size 0 (by omega)
  obtain ⟨L, hL⟩ : ∃ L, L = (starts s 0).length := ⟨_, rfl⟩
  rw [← hL] at hlen hl hlE
  have HLd := Lib.hid hL
  rw [← hL] at HC
  have hgl : s.size + (L + 1) * new.size ≤ 281474976710656 := Nat.le_trans hlen (by decide)
  have hga := grow_argE s.size L new.size hlen
  have hga' := hga
  rw [show wrap64 (new.size : Int) = (new.size : Int) from IntWalk.wrap64_in _ ⟨by omega, by have : new.size ≤ (L + 1) * new.size := Nat.le_mul_of_pos_left _ (by omega); omega⟩] at hga'
  have hL0 : ((L : Int) + 1 == 0) = false := beq_eq_false_iff_ne.2 (by omega)
  have hnL : new.size ≤ (L + 1) * new.size := Nat.le_mul_of_pos_left _ (by omega)
  obtain ⟨tot, htot⟩ : ∃ tot, tot = replAt s new.data.toList 0 0 (starts s 0 ++ [s.size]) := ⟨_, rfl⟩
  have HRt : Hid (replB s new 0 0 (starts s 0 ++ [s.size]) = ⟨tot.toArray⟩) := Lib.hid (by rw [htot]; rfl)
  rw [← htot] at hall
  have htl : tot.length ≤ 140737488355328 := by
    have h1 := congrArg List.length hall
    rw [List.length_append, hlE, Lib.size_eq new] at *
    rw [Nat.add_mul, Nat.one_mul] at hlen
    omega
  have HAll := Lib.hid hall
  clear hT hL htot hall hlE
  go_enter Tryd.func62, Tryd.ntmps62
  go_wp2_with (first | (go_at_call 74; refine HC.out.mono ?_; rintro e w1 ⟨rfl, hB1⟩; have HB1 := Lib.hid hB1; clear hB1))
  first | rw [hga] | rw [hga']
  have hB1s := HB1.out.size
  refine (bGrow w1.heap.size w1.heap.size _ _ (Nat.le_refl _) (heap_alloc_new w1 _) (by simp) hgl).mono ?_
  rintro e w2 ⟨rfl, hb0, hb1⟩
  have H2 := Lib.hid (Or.inr hb0 : Lib.IsBuilder 64 5 w1.heap.size w1.heap.size (Lib.byteCells []) w2)
  have Hb2 := Lib.hid (((Below.refl w1.heap.size w1).alloc (Nat.le_refl _) _).trans hb1)
  have hs2 : w1.heap.size ≤ w2.heap.size := Hb2.out.size
  clear hb0 hb1 hga hga'
  go_wp2_with fail
  refine (bWriteString w1.heap.size w1.heap.size _ new w2 H2.out (by rw [Lib.byteCells_length]; simp; omega) hs2).mono ?_
  rintro e w3 ⟨rfl, h3, hb3⟩
  rw [Lib.strCells_eq, ← Lib.byteCells_append, List.nil_append] at h3
  have H3 := Lib.hid (Or.inr h3 : Lib.IsBuilder 64 5 w1.heap.size w1.heap.size (Lib.byteCells new.data.toList) w3)
  have Hb3 := Lib.hid (Hb2.out.trans hb3)
  clear h3 hb3
  go_wp2_with fail
  go_loopg [11, 78] L (fun g s11 s78 wx => ∃ (i start : Nat) (acc : List UInt8), s78 = .int .i64 i ∧ s11 = .int .i64 start ∧ i + g = L ∧ start ≤ s.size ∧
      Hid (Lib.IsBuilder 64 5 w1.heap.size w1.heap.size (Lib.byteCells acc) wx) ∧ Hid (Below w1.heap.size w1 wx) ∧ Hid (acc ++ emR s new.data.toList start = tot) ∧
      Hid ((starts s start).length = g))
  case atStart => exact ⟨0, 0, _, rfl, rfl, by omega, Nat.zero_le _, H3, Hb3, HAll, Lib.hid HLd.out.symm⟩
  case round =>
    obtain ⟨i, start, acc, rfl, rfl, hig, hst, HB, HW, HR, HG⟩ := hrel
    have hBw : w1.heap.size ≤ wr.heap.size := HW.out.size
    have c1 : (0 : Int) ≤ (start : Int) := by omega
    have c2 : (start : Int) ≤ (s.size : Int) := by omega
    have htlen := congrArg List.length HR.out
    rw [List.length_append] at htlen
    cases gk with
    | zero =>
      have hiK : ¬ ((i : Int) < (L : Int)) := by omega
      have hse : start = s.size := by
        by_cases h : start < s.size
        · have := HG.out
          rw [starts_cons s start h] at this
          simp at this
        · omega
      subst hse
      have hacc : acc = tot := by have := HR.out; rwa [emR_end _ _ _ (Nat.le_refl _), List.append_nil] at this
      subst hacc
      go_wp2_with fail
      refine (bWriteString w1.heap.size w1.heap.size _ _ wr HB.out (by rw [Lib.byteCells_length]; simp; omega) hBw).mono ?_
      rintro e w4 ⟨rfl, h4, hb4⟩
      rw [Lib.strCells_eq, ← Lib.byteCells_append, show (ByteArray.empty.data.toList) = [] from rfl, List.append_nil] at h4
      have H4 := Lib.hid (Or.inr h4 : Lib.IsBuilder 64 5 w1.heap.size w1.heap.size _ w4)
      have Hb4 := Lib.hid (HW.out.trans hb4)
      have hBw4 : w1.heap.size ≤ w4.heap.size := Hb4.out.size
      clear h4 hb4
      go_wp2_with fail
      refine (bString w1.heap.size w1.heap.size _ w4 H4.out hBw4).mono ?_
      rintro e w5 ⟨rfl, hb5⟩
      have Hb5 := Lib.hid (Hb4.out.trans hb5)
      clear hb5
      go_wp2
      go_ret
      exact ⟨by rw [HRt.out]; rfl, HB1.out.trans (Hb5.out.mono hB1s)⟩
    | succ g =>
      have hiK : (i : Int) < (L : Int) := by omega
      have ha : start < s.size := by
        by_cases h : start < s.size
        · exact h
        · have := HG.out
          rw [starts_end s start (by omega)] at this
          simp at this
      have hw1 := decode_width_pos s start ha
      have hwe := decode_end s start ha
      have hcD := dDec (s.extract start s.size) wr (HT.out.below (HB1.out.trans (HW.out.mono hB1s)))
      rw [decode_suffix s start ha] at hcD
      have hcons := starts_cons s start ha
      have hes := emR_step s new.data.toList start ha
      obtain ⟨K, hK⟩ : ∃ K, K = (Utf8.decode s start).2 := ⟨_, rfl⟩
      rw [← hK] at hw1 hwe hcD hcons hes
      have HG' : Hid ((starts s (start + K)).length = g) := by
        have := HG.out
        rw [hcons, List.length_cons] at this
        show _ = _
        omega
      have hlt2 : ((s.data.toList.drop start).take K).length = K := by rw [List.length_take, List.length_drop, ← Lib.size_eq]; omega
      have hnext : Lib.byteCells acc ++ Lib.strCells (s.extract start (start + K)) ++ Lib.strCells new = Lib.byteCells (acc ++ (s.data.toList.drop start).take K ++ new.data.toList) := by
        rw [Lib.strCells_eq, Lib.strCells_eq, Lib.extract_data, Nat.add_sub_cancel_left, ← Lib.byteCells_append, ← Lib.byteCells_append]
      have hrep : (acc ++ (s.data.toList.drop start).take K ++ new.data.toList) ++ emR s new.data.toList (start + K) = tot := by
        rw [← HR.out, hes]
        simp only [List.append_assoc]
      have hml : acc.length + K + new.size ≤ tot.length := by
        have := congrArg List.length hrep
        simp only [List.length_append, hlt2, ← Lib.size_eq] at this
        omega
      have Hn := Lib.hid hnext
      have Hrep := Lib.hid hrep
      have CD := Lib.hid hcD
      clear hcD hcons hes hK hnext hrep HR HG htlen
      go_wp2_with fail
      refine CD.out.mono ?_
      rintro e w2 ⟨rfl, hB2⟩
      have HBd := Lib.hid (isBuilder_below HB.out hB2)
      have HWd := Lib.hid (HW.out.trans (hB2.mono hBw))
      have hBwd : w1.heap.size ≤ w2.heap.size := HWd.out.size
      clear hB2
      go_wp2_with fail
      refine (bWriteString w1.heap.size w1.heap.size _ (s.extract start (start + K)) w2 HBd.out (by rw [Lib.byteCells_length, ByteArray.size_extract]; omega) hBwd).mono ?_
      rintro e w3 ⟨rfl, h3, hb3⟩
      have hBw3 : w1.heap.size ≤ w3.heap.size := Nat.le_trans hBwd hb3.size
      have H3 := Lib.hid h3
      have Hb3 := Lib.hid hb3
      clear h3 hb3
      go_wp2_with fail
      refine (bWriteString w1.heap.size w1.heap.size _ new w3 (Or.inr H3.out) (by rw [List.length_append, Lib.byteCells_length, Lib.strCells_length, ByteArray.size_extract]; omega) hBw3).mono ?_
      rintro e w4 ⟨rfl, h4, hb4⟩
      rw [Hn.out] at h4
      have H4 := Lib.hid (Or.inr h4 : Lib.IsBuilder 64 5 w1.heap.size w1.heap.size _ w4)
      have Hb4 := Lib.hid ((HWd.out.trans Hb3.out).trans hb4)
      clear h4 hb4
      go_wp2
      go_roundg g
      case measure => omega
      case rel => exact ⟨i + 1, start + K, _, by go_num, by go_num, by omega, hwe, H4, Hb4, Hrep, HG'⟩

theorem gReplaceAll_tmp : True := trivial
end Go.Proofs.YtblaldahhhokmaaDoor

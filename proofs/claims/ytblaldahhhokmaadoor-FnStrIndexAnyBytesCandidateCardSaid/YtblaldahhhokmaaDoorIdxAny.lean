/- gostrings.IndexAny, ContainsAny. -/
import Derived.Test.YtblaldahhhokmaaDoorAny
set_option linter.unusedVariables false
namespace Go.Proofs.YtblaldahhhokmaaDoor
open Go.RowKit Go.Lib

theorem bl2 {w w1 w2 : World} (h1 : Hid (Below w.heap.size w w1)) (h2 : Below w1.heap.size w1 w2) : Hid (Below w.heap.size w w2) := h1.out.trans (h2.mono h1.out.size)
theorem empty_of (c : ByteArray) (h : c.size = 0) : c = ByteArray.empty := by
  apply ByteArray.ext; apply Array.toList_inj.1; apply List.length_eq_zero_iff.1
  rw [Array.length_toList]; exact h

set_option maxRecDepth 100000 in
set_option maxHeartbeats 2000000 in
theorem gIndexAny_none (s : ByteArray) (w : World) :
    Calls Tryd.prog 47 #[.string s, .string ByteArray.empty] w fun e w' => e = .returned (.int .i64 (fP s (hasR ByteArray.empty) (starts s 0))) ∧ Below w.heap.size w w' := by
  rw [fP_never s _ (hasR_none ByteArray.empty rfl)]
  go_enter Tryd.func47, Tryd.ntmps47
  go_wp2
  go_ret
  exact ⟨rfl, Below.refl _ _⟩

theorem not_empty {c : ByteArray} (h : 1 ≤ c.size) : c.toList.isEmpty = false := by
  rw [Go.ByteArray.toList_eq]
  cases hc : c.data.toList with
  | nil => have := Lib.size_eq c; rw [hc, List.length_nil] at this; omega
  | cons _ _ => rfl

set_option maxRecDepth 100000 in
set_option maxHeartbeats 2000000 in
theorem gIndexAny_one (s chars : ByteArray) (w : World) (hs : s.size < 4294967281) (h1 : chars.size = 1) :
    Calls Tryd.prog 47 #[.string s, .string chars] w fun e w' => e = .returned (.int .i64 (fP s (hasR chars) (starts s 0))) ∧ Below w.heap.size w w' := by
  rw [show fP s (hasR chars) = fP s (isR ((Utf8.decode chars 0).1 : Int)) from fP_congr s _ _ (hasR_one chars h1), decode_one chars h1]
  have hemp := not_empty (c := chars) (by omega)
  have hz1 : ((chars.size : Int) == 1) = true := by rw [beq_iff_eq]; omega
  have hp : 0 < chars.size := by omega
  rw [get_lt chars 0 hp]
  have hb8 : (chars[0]'hp).toNat < 256 := (chars[0]'hp).toNat_lt
  by_cases hc : (chars[0]'hp).toNat < 128
  · rw [if_pos hc]
    have hc' : ¬ (128 : Int) ≤ (chars[0]'hp).toNat := by omega
    clear h1
    go_enter Tryd.func47, Tryd.ntmps47
    go_wp2_with fail
    refine (gIndexRune s _ _ hs).mono ?_
    rintro e w' ⟨rfl, hB⟩
    go_wp2_with fail
    go_ret
    exact ⟨rfl, hB⟩
  · rw [if_neg hc]
    have hc' : (128 : Int) ≤ (chars[0]'hp).toNat := by omega
    clear h1
    go_enter Tryd.func47, Tryd.ntmps47
    go_wp2_with fail
    refine (gIndexRune s _ _ hs).mono ?_
    rintro e w' ⟨rfl, hB⟩
    go_wp2_with fail
    go_ret
    exact ⟨rfl, hB⟩

theorem useSet (n : Int) (w : World) :
    Calls Tryd.prog 64 #[.int .i64 n] w fun e w' => e = .returned (.bool (decide (8 < n))) ∧ w = w' := by
  go_enter Tryd.func64, Tryd.ntmps64
  go_wp2
  go_ret
  exact ⟨rfl, rfl⟩

theorem setRow_last (w : World) (c c' : Array Value) (t : TypeId) (g : Nat) (hg : g = w.heap.size) : (w.alloc (.cells c t)).setRow g c' = w.alloc (.cells c' t) := by
  subst hg; exact World.setRow_alloc_new w c c' t
theorem heap_last (w : World) (o : Obj) (g : Nat) (hg : g = w.heap.size) : (w.alloc o).heap[g]? = some o := by subst hg; exact heap_alloc_last w o

set_option maxRecDepth 100000 in
set_option maxHeartbeats 4000000 in
theorem gIndexAny_set (s chars : ByteArray) (w : World) (hs : s.size < 4294967281) (hcs : chars.size < 4294967281) (h2 : 2 ≤ chars.size) (h8 : 8 < s.size) (ha : ∀ j, j < chars.size → (chars.get! j).toNat < 128) :
    Calls Tryd.prog 47 #[.string s, .string chars] w fun e w' => e = .returned (.int .i64 (fP s (hasR chars) (starts s 0))) ∧ Below w.heap.size w w' := by
  have hM := makeASCIISet chars w hcs (fun j b hb => by
    have hj : j < chars.size := by have := (List.getElem?_eq_some_iff.1 hb).1; simpa using this
    rw [get_at chars j hj] at hb
    rw [← Option.some.inj hb]; exact ha j hj)
  have HH : Hid (∀ k, k < s.size → chars.data.toList.contains (s.get! k) = true → (∀ j, j < k → chars.data.toList.contains (s.get! j) = false) → fP s (hasR chars) (starts s 0) = k) := set_hit s chars ha
  have HMi : Hid ((∀ j, j < s.size → chars.data.toList.contains (s.get! j) = false) → fP s (hasR chars) (starts s 0) = -1) := set_miss s chars ha
  clear ha
  have hemp := not_empty (c := chars) (by omega)
  have hn1 : ((chars.size : Int) == 1) = false := beq_eq_false_iff_ne.2 (by omega)
  have h8z : decide ((8 : Int) < (s.size : Int)) = true := decide_eq_true (by omega)
  have v38 := hvSet
  obtain ⟨l, hl⟩ : ∃ l, l = chars.data.toList := ⟨_, rfl⟩
  rw [← hl] at hM HH HMi
  have HM := Lib.hid hM
  clear hM hl
  go_enter Tryd.func47, Tryd.ntmps47
  go_wp2_with (first
    | (go_at_call 64; refine (useSet _ _).mono ?_; rintro e w' ⟨rfl, rfl⟩; rw [h8z])
    | (go_at_call 65; refine HM.out.mono ?_; rintro e w' ⟨rfl, hw⟩; rw [hw]; clear hw)
    | (refine wpList_store_row rfl 73 _ _ rfl (w.heap.size + 1) (Lib.setCells l) rfl rfl 73 (Array.replicate 256 (.bool false)) (heap_last _ _ _ (by simp)) (by rw [Lib.setCells_size]; exact hiSet) (by rw [Lib.setCells_size, Array.size_replicate]) (Lib.setCells_one _) ?_; rw [setRow_last _ _ _ _ _ (by simp)]))
  have HC : Hid (∀ x : UInt8, ((w.alloc (.cells (Lib.setCells l) 73)).alloc (.cells (Lib.setCells l) 73)).cell? ⟨w.heap.size + 1, x.toNat, none⟩ = some (.bool (l.contains x))) := fun x => by
    rw [World.cell?_alloc_at _ _ _ _ (by simp), Lib.setCells_at]
  have HB : Hid (Below w.heap.size w ((w.alloc (.cells (Lib.setCells l) 73)).alloc (.cells (Lib.setCells l) 73))) := ((Below.refl _ _).alloc (Nat.le_refl _) _).alloc (by simp) _
  generalize ((w.alloc (.cells (Lib.setCells l) 73)).alloc (.cells (Lib.setCells l) 73)) = W at HC HB ⊢
  clear HM
  go_loopg [8] s.size (fun g s8 wx => ∃ i : Nat, i ≤ s.size ∧ s.size ≤ i + g ∧ s8 = .int .i64 i ∧ W = wx ∧ Hid (∀ j, j < i → l.contains (s.get! j) = false))
  case atStart => exact ⟨0, by omega, by omega, rfl, rfl, fun j h => by omega⟩
  case round =>
    obtain ⟨i, hi1, hi2, rfl, rfl, HN⟩ := hrel
    by_cases hi : i < s.size
    · obtain ⟨x, hx⟩ : ∃ x : UInt8, s[i]'hi = x := ⟨_, rfl⟩
      have hxg : s.get! i = x := (get_lt s i hi).trans hx
      have hcx := HC.out x
      cases hin : l.contains x with
      | false =>
        rw [hin] at hcx
        have HN' : Hid (∀ j, j < i + 1 → l.contains (s.get! j) = false) := fun j hj => by
          rcases Nat.lt_or_ge j i with h | h
          · exact HN.out j h
          · obtain rfl : j = i := by omega
            rw [hxg]; exact hin
        clear hxg hin
        go_wp2_with (go_at_call 66; refine (asciiSet_contains _ x _ _ hcx).mono ?_; rintro e w' ⟨rfl, hw⟩; rw [hw]; clear hw)
        go_roundg (gk - 1)
        case measure => omega
        case rel => exact ⟨i + 1, by omega, by omega, by go_num, rfl, HN'⟩
      | true =>
        rw [hin] at hcx
        have HT : Hid (fP s (hasR chars) (starts s 0) = i) := HH.out i hi (by rw [hxg]; exact hin) HN.out
        clear hxg hin
        go_wp2_with (go_at_call 66; refine (asciiSet_contains _ x _ _ hcx).mono ?_; rintro e w' ⟨rfl, hw⟩; rw [hw]; clear hw)
        go_ret
        exact ⟨ret_int HT.out.symm, HB.out⟩
    · have HT : Hid (fP s (hasR chars) (starts s 0) = -1) := HMi.out (fun j hj => HN.out j (by omega))
      go_wp2_with fail
      go_ret
      exact ⟨ret_int HT.out.symm, HB.out⟩
set_option maxRecDepth 100000 in
set_option maxHeartbeats 4000000 in
theorem gIndexAny_short (s chars : ByteArray) (w : World) (hs : s.size < 4294967281) (hcs : chars.size < 4294967281) (h2 : 2 ≤ chars.size) (h8 : s.size ≤ 8) :
    Calls Tryd.prog 47 #[.string s, .string chars] w fun e w' => e = .returned (.int .i64 (fP s (hasR chars) (starts s 0))) ∧ Below w.heap.size w w' := by
  have hemp := not_empty (c := chars) (by omega)
  have hn1 : ((chars.size : Int) == 1) = false := beq_eq_false_iff_ne.2 (by omega)
  have h8z : decide ((8 : Int) < (s.size : Int)) = false := decide_eq_false (by omega)
  go_enter Tryd.func47, Tryd.ntmps47
  go_wp2_with (go_at_call 64; refine (useSet _ _).mono ?_; rintro e w' ⟨rfl, rfl⟩; rw [h8z])
  go_loopg [] s.size (fun g wx => ∃ pos : Nat, wx.heap[w.heap.size]? = some (.stringIter s pos) ∧ Hid (Below w.heap.size w wx) ∧ Hid (fP s (hasR chars) (starts s pos) = fP s (hasR chars) (starts s 0)) ∧ s.size ≤ pos + g)
  case atStart => exact ⟨0, World.iter_heap w s 0, (Below.refl _ w).alloc (Nat.le_refl _) _, rfl, by omega⟩
  case round =>
    obtain ⟨pos, hit, HBw, HF, hfu⟩ := hrel
    have hsz : w.heap.size < wr.heap.size := (Array.getElem?_eq_some_iff.1 hit).1
    by_cases hp : pos < s.size
    · have hnx : ∀ ty, (Instr.next (.pointer (some ⟨w.heap.size, 0, none⟩)) true ty).run Tryd.prog wr = _ := fun ty => Lib.run_next_any_at wr (w.heap.size) s pos ty hit hp
      have hwd := decode_width_pos s pos hp
      have hF := HF.out
      rw [starts_cons s pos hp, fP_cons] at hF
      have hit2 := Lib.iterAt_heap wr (w.heap.size) s pos (pos + (Utf8.decode s pos).2) hit
      have hbw2 := Lib.below_iterAt HBw.out (k := w.heap.size) (by omega) s (pos + (Utf8.decode s pos).2)
      obtain ⟨R, hR⟩ : ∃ R, (Utf8.decode s pos).1 = R := ⟨_, rfl⟩
      obtain ⟨K, hK⟩ : ∃ K, (Utf8.decode s pos).2 = K := ⟨_, rfl⟩
      rw [hR, hK] at hnx
      rw [hR, hK] at hF
      rw [hK] at hwd hit2 hbw2
      obtain ⟨W, hWd⟩ : ∃ W, wr.iterAt (w.heap.size) s (pos + K) = W := ⟨_, rfl⟩
      rw [hWd] at hnx hit2 hbw2
      have hWs : w.heap.size < W.heap.size := (Array.getElem?_eq_some_iff.1 hit2).1
      have cI := gIndexRune chars (R : Int) W hcs
      have hval := hasR_iff chars R
      obtain ⟨V, hV⟩ : ∃ V, V = fP chars (isR (R : Int)) (starts chars 0) := ⟨_, rfl⟩
      rw [← hV] at cI hval
      have HB2 := Lib.hid hbw2
      have CI := Lib.hid cI
      clear hR hK hWd hV hbw2 cI
      cases hb : hasR chars R with
      | true =>
        have hv0 := hval.1 hb
        rw [hb, if_pos rfl] at hF
        have HF' := Lib.hid hF
        clear hF hval hb
        go_wp2_with (go_at_call 63; refine CI.out.mono ?_; rintro e W' ⟨rfl, hB3⟩; have HB3 := Lib.hid hB3; clear hB3)
        go_ret
        exact ⟨ret_int HF'.out, HB2.out.trans (HB3.out.mono HB2.out.size)⟩
      | false =>
        have hv0 : ¬ 0 ≤ V := fun h => by rw [hval.2 h] at hb; cases hb
        rw [hb, if_neg (by decide)] at hF
        have HF' := Lib.hid hF
        clear hF hval hb
        go_wp2_with (go_at_call 63; refine CI.out.mono ?_; rintro e W' ⟨rfl, hB3⟩; have HB3 := Lib.hid hB3; clear hB3)
        go_roundg (gk - 1)
        case measure => omega
        case rel => exact ⟨pos + K, (HB3.out.block (w.heap.size) hWs).trans hit2, HB2.out.trans (HB3.out.mono HB2.out.size), HF', by omega⟩
    · have hnx : ∀ ty, (Instr.next (.pointer (some ⟨w.heap.size, 0, none⟩)) true ty).run Tryd.prog wr = _ := fun ty => Lib.run_next_end_at wr (w.heap.size) s pos ty hit hp
      have hF := HF.out
      rw [starts_end s pos (by omega)] at hF
      have HF' := Lib.hid hF
      clear hF
      go_wp2_with fail
      go_ret
      exact ⟨ret_int HF'.out, HBw.out⟩

set_option maxRecDepth 100000 in
set_option maxHeartbeats 4000000 in
theorem gIndexAny_wide (s chars : ByteArray) (w : World) (hs : s.size < 4294967281) (hcs : chars.size < 4294967281) (h2 : 2 ≤ chars.size) (h8 : 8 < s.size) (q : Nat) (hq : q < chars.size) (hbad : 128 ≤ (chars[q]'hq).toNat) :
    Calls Tryd.prog 47 #[.string s, .string chars] w fun e w' => e = .returned (.int .i64 (fP s (hasR chars) (starts s 0))) ∧ Below w.heap.size w w' := by
  have hemp := not_empty (c := chars) (by omega)
  have hn1 : ((chars.size : Int) == 1) = false := beq_eq_false_iff_ne.2 (by omega)
  have h8z : decide ((8 : Int) < (s.size : Int)) = true := decide_eq_true (by omega)
  have v38 := hvSet
  have HM := Lib.hid (makeASCIISet_no chars w hcs q hq hbad)
  clear hbad
  go_enter Tryd.func47, Tryd.ntmps47
  go_wp2_with (first
    | (go_at_call 64; refine (useSet _ _).mono ?_; rintro e w' ⟨rfl, rfl⟩; rw [h8z])
    | (go_at_call 65; refine HM.out.mono ?_; rintro e w' ⟨l, rfl, hw⟩; rw [hw]; clear hw)
    | (refine wpList_store_row rfl 73 _ _ rfl (w.heap.size + 1) (Lib.setCells l) rfl rfl 73 (Array.replicate 256 (.bool false)) (heap_last _ _ _ (by simp)) (by rw [Lib.setCells_size]; exact hiSet) (by rw [Lib.setCells_size, Array.size_replicate]) (Lib.setCells_one _) ?_; rw [setRow_last _ _ _ _ _ (by simp)]))
  clear HM
  go_loopg [] s.size (fun g wx => ∃ pos : Nat, wx.heap[w.heap.size + 2]? = some (.stringIter s pos) ∧ Hid (Below w.heap.size w wx) ∧ Hid (fP s (hasR chars) (starts s pos) = fP s (hasR chars) (starts s 0)) ∧ s.size ≤ pos + g)
  case atStart => exact ⟨0, by have := World.iter_heap ((w.alloc (.cells (Lib.setCells l) 73)).alloc (.cells (Lib.setCells l) 73)) s 0; simpa using this, (((Below.refl _ w).alloc (Nat.le_refl _) _).alloc (by simp) _).alloc (by simp; omega) _, rfl, by omega⟩
  case round =>
    obtain ⟨pos, hit, HBw, HF, hfu⟩ := hrel
    have hsz : w.heap.size + 2 < wr.heap.size := (Array.getElem?_eq_some_iff.1 hit).1
    by_cases hp : pos < s.size
    · have hnx : ∀ ty, (Instr.next (.pointer (some ⟨w.heap.size + 2, 0, none⟩)) true ty).run Tryd.prog wr = _ := fun ty => Lib.run_next_any_at wr (w.heap.size + 2) s pos ty hit hp
      have hwd := decode_width_pos s pos hp
      have hF := HF.out
      rw [starts_cons s pos hp, fP_cons] at hF
      have hit2 := Lib.iterAt_heap wr (w.heap.size + 2) s pos (pos + (Utf8.decode s pos).2) hit
      have hbw2 := Lib.below_iterAt HBw.out (k := w.heap.size + 2) (by omega) s (pos + (Utf8.decode s pos).2)
      obtain ⟨R, hR⟩ : ∃ R, (Utf8.decode s pos).1 = R := ⟨_, rfl⟩
      obtain ⟨K, hK⟩ : ∃ K, (Utf8.decode s pos).2 = K := ⟨_, rfl⟩
      rw [hR, hK] at hnx
      rw [hR, hK] at hF
      rw [hK] at hwd hit2 hbw2
      obtain ⟨W, hWd⟩ : ∃ W, wr.iterAt (w.heap.size + 2) s (pos + K) = W := ⟨_, rfl⟩
      rw [hWd] at hnx hit2 hbw2
      have hWs : w.heap.size + 2 < W.heap.size := (Array.getElem?_eq_some_iff.1 hit2).1
      have cI := gIndexRune chars (R : Int) W hcs
      have hval := hasR_iff chars R
      obtain ⟨V, hV⟩ : ∃ V, V = fP chars (isR (R : Int)) (starts chars 0) := ⟨_, rfl⟩
      rw [← hV] at cI hval
      have HB2 := Lib.hid hbw2
      have CI := Lib.hid cI
      clear hR hK hWd hV hbw2 cI
      cases hb : hasR chars R with
      | true =>
        have hv0 := hval.1 hb
        rw [hb, if_pos rfl] at hF
        have HF' := Lib.hid hF
        clear hF hval hb
        go_wp2_with (go_at_call 63; refine CI.out.mono ?_; rintro e W' ⟨rfl, hB3⟩; have HB3 := Lib.hid hB3; clear hB3)
        go_ret
        exact ⟨ret_int HF'.out, HB2.out.trans (HB3.out.mono HB2.out.size)⟩
      | false =>
        have hv0 : ¬ 0 ≤ V := fun h => by rw [hval.2 h] at hb; cases hb
        rw [hb, if_neg (by decide)] at hF
        have HF' := Lib.hid hF
        clear hF hval hb
        go_wp2_with (go_at_call 63; refine CI.out.mono ?_; rintro e W' ⟨rfl, hB3⟩; have HB3 := Lib.hid hB3; clear hB3)
        go_roundg (gk - 1)
        case measure => omega
        case rel => exact ⟨pos + K, (HB3.out.block (w.heap.size + 2) hWs).trans hit2, HB2.out.trans (HB3.out.mono HB2.out.size), HF', by omega⟩
    · have hnx : ∀ ty, (Instr.next (.pointer (some ⟨w.heap.size + 2, 0, none⟩)) true ty).run Tryd.prog wr = _ := fun ty => Lib.run_next_end_at wr (w.heap.size + 2) s pos ty hit hp
      have hF := HF.out
      rw [starts_end s pos (by omega)] at hF
      have HF' := Lib.hid hF
      clear hF
      go_wp2_with fail
      go_ret
      exact ⟨ret_int HF'.out, HBw.out⟩

/-- gostrings.IndexAny: the first place of one of some code points, whatever the bytes. -/
theorem gIndexAny (s chars : ByteArray) (w : World) (hs : s.size < 4294967281) (hcs : chars.size < 4294967281) :
    Calls Tryd.prog 47 #[.string s, .string chars] w fun e w' => e = .returned (.int .i64 (fP s (hasR chars) (starts s 0))) ∧ Below w.heap.size w w' := by
  by_cases h0 : chars.size = 0
  · rw [empty_of chars h0]; exact gIndexAny_none s w
  by_cases h1 : chars.size = 1
  · exact gIndexAny_one s chars w hs h1
  by_cases h8 : s.size ≤ 8
  · exact gIndexAny_short s chars w hs hcs (by omega) h8
  by_cases ha : ∀ j, j < chars.size → (chars.get! j).toNat < 128
  · exact gIndexAny_set s chars w hs hcs (by omega) (by omega) ha
  · obtain ⟨q, hq⟩ := Classical.not_forall.1 ha
    obtain ⟨hq1, hq2⟩ := Classical.not_imp.1 hq
    exact gIndexAny_wide s chars w hs hcs (by omega) (by omega) q hq1 (by rw [← get_lt chars q hq1]; omega)

theorem StrIndexAny (s chars : ByteArray) (w : World) (hs : s.size < 4294967281) (hcs : chars.size < 4294967281) :
    Calls Tryd.prog 29 #[.string s, .string chars] w fun e w' => e = .returned (.int .i64 (fP s (hasR chars) (starts s 0))) ∧ Below w.heap.size w w' := by
  go_enter Tryd.func29, Tryd.ntmps29
  go_wp2_with fail
  refine (gIndexAny s chars _ hs hcs).mono ?_
  rintro e w' ⟨rfl, hB⟩
  go_wp2_with fail
  go_ret
  exact ⟨rfl, hB⟩
end Go.Proofs.YtblaldahhhokmaaDoor

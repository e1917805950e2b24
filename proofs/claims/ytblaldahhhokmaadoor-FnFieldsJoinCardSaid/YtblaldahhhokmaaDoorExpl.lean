/- gostrings.explode: the code points of a text, at most so many pieces. -/
import Derived.Test.YtblaldahhhokmaaDoorPcs2
import Derived.Test.YtblaldahhhokmaaDoorL8
import Derived.Laws.Rows
set_option linter.unusedVariables false
namespace Go.Proofs.YtblaldahhhokmaaDoor
open Go.RowKit Go.Lib

theorem count_starts (s : ByteArray) : ∀ f a, s.size - a ≤ f → runeCountFrom s f a = (starts s a).length
  | 0, a, h => by rw [starts_end s a (by omega)]; rfl
  | f + 1, a, h => by
    unfold runeCountFrom
    by_cases ha : a < s.size
    · have hw := decode_width_pos s a ha
      rw [if_pos ha, starts_cons s a ha, List.length_cons, count_starts s f _ (by omega)]; omega
    · rw [if_neg ha, starts_end s a (by omega)]; rfl
theorem runeCount_starts (s : ByteArray) : runeCount s = (starts s 0).length := count_starts s s.size 0 (by omega)

theorem decode_suffix (s : ByteArray) (a : Nat) (h : a < s.size) : decodeGo (s.extract a s.size) = Utf8.decode s a := by
  have hz : (s.extract a s.size).size = s.size - a := by rw [ByteArray.size_extract]; omega
  have hg : ∀ j, (s.extract a s.size).get! j = s.get! (a + j) := fun j => by
    rw [← getD_get!, ← getD_get!, x_list]
    simp [List.getD, List.getElem?_drop]
  unfold decodeGo
  rw [if_neg (by omega), decode_at, decode_at, hz, hg, hg, hg, hg]
  rfl

/-- The pieces, N of them. -/
def expl (s : ByteArray) (N : Nat) : List ByteArray := if N = 0 then [] else piecesOf s 0 0 0 (brkE s (N - 1))
/-- How many. -/
def eN (s : ByteArray) (n : Int) : Nat := if n < 0 ∨ ((starts s 0).length : Int) < n then (starts s 0).length else n.toNat
theorem eN_le (s : ByteArray) (n : Int) : eN s n ≤ (starts s 0).length := by
  unfold eN; split <;> omega
theorem expl_len (s : ByteArray) (N : Nat) (h : N ≤ (starts s 0).length) : (expl s N).length = N := by
  unfold expl
  split
  · next h0 => rw [h0]; rfl
  · rw [piecesOf_len]; unfold brkE; rw [List.length_take, List.length_drop]; omega

theorem heap_alloc_last' (w : World) (o : Obj) : (w.alloc o).heap[w.heap.size]? = some o := by
  show (w.heap.push o)[w.heap.size]? = some o
  simp
theorem row_at (xs : List ByteArray) (N B : Nat) (w : World) (hh : w.heap[B]? = some (.cells (cellsOf xs N) 9 (0, 0))) (hN : xs.length = N) : StrsAt w (.slice (some ⟨B, 0, none⟩) N N) xs := by
  subst hN
  exact ⟨_, _, rfl, Nat.le_refl _, fun _ => ⟨B, 0, rfl, (Array.getElem?_eq_some_iff.1 hh).1, fun j u hu => by rw [Nat.zero_add, cell_of_row w B j _ _ _ hh]; exact cellsOf_at hu⟩⟩

set_option maxRecDepth 100000 in
set_option maxHeartbeats 4000000 in
theorem explode (s : ByteArray) (n : Int) (w : World) (hs : s.size < 2147483648) (hlo : -9223372036854775808 ≤ n) (hhi : n ≤ 9223372036854775807) (hT : Tabs w) :
    Calls Tryd.prog 73 #[.string s, .int .i64 n] w fun e W' => ∃ v, e = .returned v ∧ StrsAt W' v (expl s (eN s n)) ∧ Below w.heap.size w W' := by
  have HT := Lib.hid hT
  clear hT
  have hl := starts_len s s.size 0 (by omega)
  have hNl := eN_le s n
  obtain ⟨l, hld⟩ : ∃ l, l = (starts s 0).length := ⟨_, rfl⟩
  have HC := Lib.hid (dCount s w (by omega))
  rw [runeCount_starts, ← hld] at HC
  have hN1 : n < 0 → eN s n = l := fun h => by rw [eN, if_pos (.inl h), hld]
  have hN2 : (l : Int) < n → eN s n = l := fun h => by rw [eN, if_pos (.inr (by omega)), hld]
  have hN3 : ¬ n < 0 → ¬ (l : Int) < n → (eN s n : Int) = n := fun h1 h2 => by rw [eN, if_neg (by omega)]; omega
  obtain ⟨N, hNd⟩ : ∃ N, N = eN s n := ⟨_, rfl⟩
  rw [← hNd] at hNl hN1 hN2 hN3 ⊢
  rw [← hld] at hl hNl
  have HL := Lib.hid hld
  clear hNd hld
  have hmk := run_make_row' (P := Tryd.prog) 24 9 (.string ByteArray.empty) 16 Tryd.underlying24 strInfo rfl .i64 .i64 N (by omega) (by omega)
  have hcase : (n < 0 ∧ N = l) ∨ ((l : Int) < n ∧ ¬ n < 0 ∧ N = l) ∨ (¬ n < 0 ∧ ¬ (l : Int) < n ∧ (N : Int) = n) := by
    by_cases h1 : n < 0
    · exact .inl ⟨h1, hN1 h1⟩
    · by_cases h2 : (l : Int) < n
      · exact .inr (.inl ⟨h2, h1, hN2 h2⟩)
      · exact .inr (.inr ⟨h1, h2, hN3 h1 h2⟩)
  clear hN1 hN2 hN3
  have hfin := expl_len s N (by have := HL.out; omega)
  have HE := Lib.hid hfin
  clear hfin
  rcases hcase with ⟨h1, hNe⟩ | ⟨h1, h2, hNe⟩ | ⟨h1, h2, hNe⟩
  case' inl => subst hNe
  case' inr.inl =>
    subst hNe
    have hd0 : decide (n < 0) = false := decide_eq_false h2
  case' inr.inr =>
    subst hNe
    have hd0 : decide ((N : Int) < 0) = false := decide_eq_false (by omega)
    have hd1 : decide (l < N) = false := decide_eq_false (by omega)
  all_goals
    go_enter Tryd.func73, Tryd.ntmps73
    go_wp2_with (go_at_call 89; refine HC.out.mono ?_; rintro e w1 ⟨rfl, hB1⟩; have HB1 := Lib.hid hB1; clear hB1)
    clear hmk
    have hB1s := HB1.out.size
    go_loopg [0, 7] N (fun g s0 s7 wx => ∃ (a i : Nat) (dn : List ByteArray) (x : ByteArray), s0 = .string x ∧ s7 = .int .i64 i ∧ i ≤ N - 1 ∧ N - 1 ≤ i + g ∧ a ≤ s.size ∧ Hid (x = s.extract a s.size) ∧ Hid (dn.length = i) ∧ Hid ((starts s a).length + i = (starts s 0).length) ∧ Hid (0 < N → dn ++ piecesOf s 0 0 a (((starts s a).drop 1).take (N - 1 - i)) = expl s N) ∧ Hid (wx.heap[w1.heap.size]? = some (.cells (cellsOf dn N) 9 (0, 0))) ∧ Hid (Below w.heap.size w wx))
    case atStart => exact ⟨0, 0, [], s, rfl, rfl, Nat.zero_le _, by omega, Nat.zero_le _, Lib.hid (show s.extract 0 s.size = s from ByteArray.extract_zero_size).symm, rfl, rfl, Lib.hid (fun h => by rw [expl, if_neg (by omega)]; rfl), Lib.hid (by rw [cellsOf_nil]; exact heap_alloc_last' _ _), Lib.hid (HB1.out.alloc hB1s _)⟩
    case round =>
      obtain ⟨a, i, dn, x, rfl, rfl, hiN, hg, has, HX, HDl, HSl, HP, HH, HB⟩ := hrel
      have hBlt : w1.heap.size < wr.heap.size := (Array.getElem?_eq_some_iff.1 HH.out).1
      by_cases hlt : i < N - 1
      · have hltz : (i : Int) < (N : Int) - 1 := by omega
        have ha : a < s.size := by
          by_cases h : a < s.size
          · exact h
          · have := HSl.out
            rw [starts_end s a (by omega)] at this
            have := HL.out
            simp at *
            omega
        have hw1 := decode_width_pos s a ha
        have hwe := decode_end s a ha
        have hcD := dDec (s.extract a s.size) wr (HT.out.below HB.out)
        rw [decode_suffix s a ha, ← HX.out] at hcD
        have hcons := starts_cons s a ha
        obtain ⟨K, hK⟩ : ∃ K, K = (Utf8.decode s a).2 := ⟨_, rfl⟩
        rw [← hK] at hw1 hwe hcD hcons
        have hxs : x.size = s.size - a := by rw [HX.out, ByteArray.size_extract]; omega
        have hKx : K ≤ x.size := by omega
        have HX0 : Hid (x.extract 0 K = s.extract a (a + K)) := by show _ = _; rw [HX.out]; exact x_to s a K hwe
        have HX1 : Hid (x.extract K x.size = s.extract (a + K) s.size) := by show _ = _; rw [HX.out]; exact x_from s a K hwe
        have hb : a + K < s.size := by
          by_cases h : a + K < s.size
          · exact h
          · have h5 := HSl.out
            rw [hcons, starts_end s (a + K) (by omega)] at h5
            have h6 := HL.out
            simp at h5
            omega
        have HS' : Hid ((starts s (a + K)).length + (i + 1) = (starts s 0).length) := by
          have := HSl.out
          rw [hcons, List.length_cons] at this
          show _ = _
          omega
        have HP' : Hid (0 < N → (dn ++ [x.extract 0 K]) ++ piecesOf s 0 0 (a + K) (((starts s (a + K)).drop 1).take (N - 1 - (i + 1))) = expl s N) := Lib.hid (fun h => by
          have := HP.out h
          rw [hcons, List.drop_succ_cons, List.drop_zero, starts_cons s (a + K) hb, show N - 1 - i = N - 1 - (i + 1) + 1 by omega, List.take_succ_cons] at this
          rw [starts_cons s (a + K) hb, List.drop_succ_cons, List.drop_zero, List.append_assoc, HX0.out]
          exact this)
        have hnext : (cellsOf dn N)[i]? = some (.string ByteArray.empty) := by
          have := HDl.out
          rw [← this]; exact cellsOf_next (by omega)
        have CD := Lib.hid hcD
        have HN := Lib.hid hnext
        clear hcD hcons hK hnext hxs
        go_wp2_with fail
        refine CD.out.mono ?_
        rintro e w2 ⟨rfl, hB2⟩
        have hh2 : w2.heap[w1.heap.size]? = some (.cells (cellsOf dn N) 9 (0, 0)) := (hB2.block _ hBlt).trans HH.out
        have HB2 : Hid (Below w.heap.size w w2) := HB.out.trans (hB2.mono HB.out.size)
        have cB : w2.cell? ⟨w1.heap.size, i, none⟩ = some (.string ByteArray.empty) := (cell_of_row w2 _ i _ _ _ hh2).trans HN.out
        have fB := frozen_of_row w2 w1.heap.size i _ _ hh2
        have HH2 := Lib.hid hh2
        clear hB2 hh2
        go_wp2_with fail
        go_roundg (gk - 1)
        case measure => omega
        case rel => exact ⟨a + K, i + 1, dn ++ [x.extract 0 K], x.extract K x.size, rfl, by go_num, by omega, by omega, by omega, HX1, Lib.hid (by rw [List.length_append, HDl.out]; rfl), HS', HP', Lib.hid (by
          rw [heap_setCell_same w2 _ i _ _ _ HH2.out, show i = dn.length from HDl.out.symm, cellsOf_set (by have := HDl.out; omega)]), Lib.hid (HB2.out.setCell (p := ⟨w1.heap.size, i, none⟩) hB1s _)⟩
      · by_cases hN0 : N = 0
        · have HT0 : Hid (StrsAt wr (.slice (some ⟨w1.heap.size, 0, none⟩) 0 0) (expl s N)) := by
            have : expl s N = [] := by rw [expl, if_pos hN0]
            rw [this]
            exact ⟨_, 0, rfl, Nat.le_refl _, fun h => absurd rfl h⟩
          have hz : ¬ (0 : Int) < (N : Int) := by omega
          have hlz : ¬ ((i : Int) < (N : Int) - 1) := by omega
          have HN0 := Lib.hid hN0
          clear hN0
          go_wp2_with fail
          go_ret
          exact ⟨_, rfl, by have := HT0.out; rw [HN0.out] at this ⊢; exact this, HB.out⟩
        · have hz : (0 : Int) < (N : Int) := by omega
          have hlz : ¬ ((i : Int) < (N : Int) - 1) := by omega
          have hie : i = N - 1 := by omega
          have cB : wr.cell? ⟨w1.heap.size, N - 1, none⟩ = some (.string ByteArray.empty) := by
            rw [cell_of_row wr _ _ _ _ _ HH.out, ← hie, ← HDl.out]
            exact cellsOf_next (by have := HDl.out; omega)
          have fB := frozen_of_row wr w1.heap.size (N - 1) _ _ HH.out
          have HI := Lib.hid hie
          have HF : Hid (dn ++ [x] = expl s N) := by
            have := HP.out (by omega)
            rw [show N - 1 - i = 0 by omega, List.take_zero] at this
            rw [HX.out]; exact this
          clear hie
          go_wp2_with fail
          go_ret
          refine ⟨_, rfl, row_at (expl s N) N w1.heap.size _ ?_ HE.out, HB.out.setCell (p := ⟨w1.heap.size, N - 1, none⟩) hB1s _⟩
          rw [heap_setCell_same wr _ _ _ _ _ HH.out, ← HF.out, show N - 1 = dn.length by have := HDl.out; have := HI.out; omega, cellsOf_set (by have := HDl.out; have := HI.out; omega)]
end Go.Proofs.YtblaldahhhokmaaDoor

/- The reference's pieces with their separators, at any number. -/
import Derived.Test.YtpaieadnicmplaaDoorPcsN
set_option linter.unusedVariables false
namespace Go.Proofs.YtpaieadnicmplaaDoor
open Go.RowKit Go.Lib

set_option maxRecDepth 100000 in
set_option maxHeartbeats 8000000 in
theorem SePieces_keepW (s sep : ByteArray) (n : Int) (B : List Nat) (w : World) (hs : s.size < 2147483648) (hp : sep.size < 2147483648) (hn0 : (n == 0) = false)
    (hE : s.toList.isEmpty = false ∨ (s.toList.isEmpty = true ∧ sep.toList.isEmpty = false))
    (HBrk : Hid (∀ W, Calls Tryd.prog 27 #[.string s, .string sep, .int .i64 (wrap64 (n - 1))] W fun e W' => ∃ v, e = .returned v ∧ IntsAt W' v B ∧ Below W.heap.size W W')) (HOk : Hid (okB s sep.size 0 B)) (hBl : B.length ≤ s.size + 1) :
    Calls Tryd.prog 12 #[.string s, .string sep, .int .i64 n, .bool true] w fun e W' => ∃ v, e = .returned v ∧ StrsAt W' v (piecesOf s sep.size (sep.size) 0 B) ∧ Below w.heap.size w W' := by
  obtain ⟨i0, hi, hz0, hz1, hz2⟩ := info_parts str_info
  rcases hE with hE1 | ⟨hE1, hE2⟩
  all_goals
    go_enter Tryd.func12, Tryd.ntmps12
    go_wp2_with fail
    refine (HBrk.out _).mono ?_
    rintro e w1 ⟨v, rfl, hI, hB1⟩
    obtain ⟨A, cp, rfl, hc, hx⟩ := hI
    have HX := Lib.hid hx
    have HB1 := Lib.hid hB1
    clear hx hB1
    have hB1s := HB1.out.size
    go_wp2_with fail
    go_loopg [9, 10, 30] B.length (fun g v av iv W => ∃ (k a : Nat) (dn : List ByteArray), k ≤ B.length ∧ B.length ≤ k + g ∧ iv = .int .i64 k ∧ av = .int .i64 a ∧ a ≤ s.size ∧ dn.length = k ∧ Hid (okB s sep.size a (B.drop k)) ∧ Hid (dn ++ piecesOf s sep.size (sep.size) a (B.drop k) = piecesOf s sep.size (sep.size) 0 B) ∧ Hid (W.ownsRow w1.heap.size 9 1 v dn.length (dn.map Value.string)) ∧ Hid (Below w1.heap.size w1 W))
    case atStart => exact ⟨0, 0, [], Nat.zero_le _, by omega, rfl, rfl, Nat.zero_le _, rfl, HOk, rfl, World.ownsRow_nil _ _ _ _, Below.refl _ _⟩
    case round =>
      obtain ⟨k, a, dn, hk, hg, rfl, rfl, has, hdk, HO, HD, HR, HB⟩ := hrel
      have hBs := HB.out.size
      have hmx : dn.length + 1 ≤ maxLen := by unfold maxLen; omega
      have hdl : dn.length ≤ 2147483648 := by omega
      by_cases hlt : k < B.length
      · obtain ⟨u, hu⟩ : ∃ u, B[k]? = some u := ⟨B[k], List.getElem?_eq_getElem hlt⟩
        obtain ⟨g, o, rfl, hg', hcell⟩ := HX.out (by rintro rfl; simp at hlt)
        have hcu : wr.cell? ⟨g, o + k, none⟩ = some (.int .i64 (u : Int)) := (HB.out.cell (p := ⟨g, o + k, none⟩) hg').trans (hcell k u hu)
        have hok := HO.out
        rw [drop_consN hu] at hok
        obtain ⟨hau, hus, hok'⟩ := hok
        have HO' := Lib.hid hok'
        have HD' : Hid ((dn ++ [s.extract a (u + sep.size)]) ++ piecesOf s sep.size (sep.size) (u + sep.size) (B.drop (k + 1)) = piecesOf s sep.size (sep.size) 0 B) := by
          have := HD.out
          rw [drop_consN hu] at this
          rw [List.append_assoc]; exact this
        have HDK := Lib.hid hdk
        clear hcell hu hok' hdk
        have q1 : (a : Int) ≤ (u : Int) + sep.size := by omega
        have q2 : (u : Int) + sep.size ≤ s.size := by omega
        have q3 : (0 : Int) ≤ (u : Int) + sep.size := by omega
        go_wp2_with (at_builtin; refine wpList_append_own _ rfl _ _ 28 rfl w1.heap.size 9 i0 (.string ByteArray.empty) 1 16 Tryd.underlying28 hi hz0 hz1 hz2 rfl (by decide) _ _ _ rfl (HR.out.alloc _) ⟨wr.heap.size, 0, none⟩ 1 1 [.string (s.extract a (u + sep.size))] rfl rfl (cell_one_new _ _ _) (by simp [Value.oneCell']) hmx (by omega) (by simp; omega) ?_; intro v' w2 hown' hgrow _; have hB2 : Below w1.heap.size w1 w2 := (HB.out.alloc hBs _).grown hgrow (by simp; omega) (fun j ej => (HR.out.lt j ej).1); obtain ⟨g', cap', rfl⟩ := ownsRow_succ hown'; have HW := Lib.hid hown'; have HB2 := Lib.hid hB2; clear hown' hgrow hB2)
        go_roundg (gk - 1)
        case measure => omega
        case rel => exact ⟨k + 1, u + sep.size, dn ++ [s.extract a (u + sep.size)], by omega, by omega, by go_num, by go_num, by omega, by rw [List.length_append, HDK.out]; rfl, HO', HD', Lib.hid (by have := HW.out; simpa using this), HB2⟩
      · have HT : Hid (dn ++ [s.extract a s.size] = piecesOf s sep.size (sep.size) 0 B) := by
          have := HD.out
          rw [List.drop_eq_nil_of_le (by omega)] at this
          exact this
        have HDK := Lib.hid hdk
        clear hdk
        have q1 : (a : Int) ≤ s.size := by omega
        go_wp2_with (at_builtin; refine wpList_append_own _ rfl _ _ 28 rfl w1.heap.size 9 i0 (.string ByteArray.empty) 1 16 Tryd.underlying28 hi hz0 hz1 hz2 rfl (by decide) _ _ _ rfl (HR.out.alloc _) ⟨wr.heap.size, 0, none⟩ 1 1 [.string (s.extract a s.size)] rfl rfl (cell_one_new _ _ _) (by simp [Value.oneCell']) hmx (by omega) (by simp; omega) ?_; intro v' w2 hown' hgrow _; have hB2 : Below w1.heap.size w1 w2 := (HB.out.alloc hBs _).grown hgrow (by simp; omega) (fun j ej => (HR.out.lt j ej).1); obtain ⟨g', cap', rfl⟩ := ownsRow_succ hown'; have HW := Lib.hid hown'; have HB2 := Lib.hid hB2; clear hown' hgrow hB2)
        have HS : Hid (StrsAt w2 (.slice (some ⟨g', 0, none⟩) (dn.length + 1) cap') (piecesOf s sep.size (sep.size) 0 B)) := by
          rw [← HT.out]
          exact StrsAt.of_own (by have := HW.out; simpa using this)
        go_ret
        exact ⟨_, rfl, HS.out, HB1.out.trans (HB2.out.mono hB1s)⟩

/-- The reference's pieces are those of Split: every text, every separator, both not empty at once. -/
theorem SePiecesK_any (s sep : ByteArray) (n : Int) (w : World) (hs : s.size < 2147483648) (hp : sep.size < 2147483648) (hn0 : n ≠ 0) (hlo : -9223372036854775807 ≤ n) (hhi : n ≤ 9223372036854775807) (hne : 1 ≤ s.size ∨ 1 ≤ sep.size) :
    Calls Tryd.prog 12 #[.string s, .string sep, .int .i64 n, .bool true] w fun e W' => ∃ v, e = .returned v ∧ StrsAt W' v (allP s sep sep.size n) ∧ Below w.heap.size w W' := by
  have hn' : (n == 0) = false := beq_eq_false_iff_ne.2 hn0
  by_cases h0 : sep.size = 0
  · have he := emptyS sep h0
    subst he
    have hs1 : 1 ≤ s.size := by omega
    have := SePieces_keep s ByteArray.empty n (brkE s (lim s (n - 1))) w hs hp hn' hlo hhi (.inl (neS hs1)) (Lib.hid (fun W => SeBreaks_empty s (n - 1) W hs (by omega))) (Lib.hid (okB_brkE s _)) (by have := brkE_len s (lim s (n - 1)); omega)
    have e : allP s ByteArray.empty ByteArray.empty.size n = piecesOf s (ByteArray.empty).size (ByteArray.empty).size 0 (brkE s (lim s (n - 1))) := by
      have hl1 : 1 ≤ (starts s 0).length := by rw [starts_cons s 0 (by omega)]; simp
      have hls := starts_len s s.size 0 (by omega)
      unfold allP
      rw [if_pos h0, expl]
      have hz : (ByteArray.empty).size = 0 := h0
      rw [hz]
      by_cases h1 : n < 0
      · have hN : eN s n = (starts s 0).length := by rw [eN, if_pos (Or.inl h1)]
        have hL : lim s (n - 1) = s.size + 1 := by rw [lim, if_pos (by omega)]
        rw [hN, hL, if_neg (by omega), brkE_whole s _ (by omega), brkE_whole s _ (by omega)]
      · have hL : lim s (n - 1) = (n - 1).toNat := by rw [lim, if_neg (by omega)]
        by_cases h2 : ((starts s 0).length : Int) < n
        · have hN : eN s n = (starts s 0).length := by rw [eN, if_pos (Or.inr h2)]
          rw [hN, hL, if_neg (by omega), brkE_whole s _ (by omega), brkE_whole s _ (by omega)]
        · have hN : eN s n = n.toNat := by rw [eN, if_neg (by omega)]
          rw [hN, hL, if_neg (by omega), show n.toNat - 1 = (n - 1).toNat by omega]
    rw [e]
    exact this
  · have h1 : 1 ≤ sep.size := by omega
    have hE : s.toList.isEmpty = false ∨ (s.toList.isEmpty = true ∧ sep.toList.isEmpty = false) := by
      cases hc : s.toList.isEmpty with
      | false => exact .inl rfl
      | true => exact .inr ⟨rfl, neS h1⟩
    have := SePieces_keep s sep n (brk s sep 0 (lim s (n - 1))) w hs hp hn' hlo hhi hE (Lib.hid (fun W => SeBreaks_sep s sep (n - 1) W hs hp h1 (by omega))) (Lib.hid (okB_brk s sep h1 (s.size + 1) 0 _ (by omega) (Nat.zero_le _) 0 (Nat.le_refl _))) (by have := brk_len s sep h1 (s.size + 1) 0 (lim s (n - 1)) (by omega); omega)
    have e : allP s sep sep.size n = piecesOf s sep.size sep.size 0 (brk s sep 0 (lim s (n - 1))) := by
      unfold allP
      rw [if_neg h0]
      refine pcs_pieces s sep sep.size n _ h1 (Nat.le_refl _) hn0 (fun h => ?_) (fun h => ?_)
      · unfold lim; rw [if_pos (by omega)]; omega
      · unfold lim; rw [if_neg (by omega)]; left; omega
    rw [e]
    exact this
set_option maxHeartbeats 1000000 in
theorem SePiecesK_both (n : Int) (w : World) :
    Calls Tryd.prog 12 #[.string ByteArray.empty, .string ByteArray.empty, .int .i64 n, .bool true] w fun e W' => e = .returned (.slice none 0 0) ∧ w = W' := by
  by_cases h : (n == 0) = true
  · go_enter Tryd.func12, Tryd.ntmps12
    go_wp2
    go_ret
    exact ⟨rfl, rfl⟩
  · have h' : (n == 0) = false := by simpa using h
    clear h
    go_enter Tryd.func12, Tryd.ntmps12
    go_wp2
    go_ret
    exact ⟨rfl, rfl⟩

theorem allPK_both (n : Int) : allP ByteArray.empty ByteArray.empty ByteArray.empty.size n = [] := by
  unfold allP
  rw [if_pos (show (ByteArray.empty).size = 0 from rfl)]
  have h : (starts ByteArray.empty 0).length = 0 := by rw [starts_end ByteArray.empty 0 (show (ByteArray.empty).size ≤ 0 from Nat.le_refl 0)]; rfl
  have := eN_le ByteArray.empty n
  rw [expl, if_pos (by omega)]

/-- The reference's pieces, whatever the texts. -/
theorem SePiecesK_all (s sep : ByteArray) (n : Int) (w : World) (hs : s.size < 2147483648) (hp : sep.size < 2147483648) (hn0 : n ≠ 0) (hlo : -9223372036854775807 ≤ n) (hhi : n ≤ 9223372036854775807) :
    Calls Tryd.prog 12 #[.string s, .string sep, .int .i64 n, .bool true] w fun e W' => ∃ v, e = .returned v ∧ StrsAt W' v (allP s sep sep.size n) ∧ Below w.heap.size w W' := by
  by_cases hne : 1 ≤ s.size ∨ 1 ≤ sep.size
  · exact SePiecesK_any s sep n w hs hp hn0 hlo hhi hne
  · rw [emptyS s (by omega), emptyS sep (by omega), allPK_both]
    exact (SePiecesK_both n w).mono fun e w' ⟨he, hw⟩ => ⟨_, he, StrsAt.nil _, hw ▸ Below.refl _ _⟩

theorem SePiecesK_min (s sep : ByteArray) (n : Int) (hn : n = -9223372036854775808) (w : World) (hs : s.size < 2147483648) (hp : sep.size < 2147483648) (hne : 1 ≤ s.size ∨ 1 ≤ sep.size) :
    Calls Tryd.prog 12 #[.string s, .string sep, .int .i64 n, .bool true] w fun e W' => ∃ v, e = .returned v ∧ StrsAt W' v (allP s sep sep.size n) ∧ Below w.heap.size w W' := by
  have hn' : (n == 0) = false := beq_eq_false_iff_ne.2 (by omega)
  have hL : lim s 9223372036854775807 = 9223372036854775807 := by rw [lim, if_neg (by decide)]; rfl
  have hw := wrap_min n hn
  by_cases h0 : sep.size = 0
  · have he := emptyS sep h0
    subst he
    have hs1 : 1 ≤ s.size := by omega
    have := SePieces_keepW s ByteArray.empty n (brkE s (lim s 9223372036854775807)) w hs hp hn' (.inl (neS hs1)) (Lib.hid (fun W => by rw [hw]; exact SeBreaks_empty s 9223372036854775807 W hs (by decide))) (Lib.hid (okB_brkE s _)) (by have := brkE_len s (lim s 9223372036854775807); omega)
    have e : allP s ByteArray.empty ByteArray.empty.size n = piecesOf s (ByteArray.empty).size (ByteArray.empty).size 0 (brkE s (lim s 9223372036854775807)) := by
      have hl1 : 1 ≤ (starts s 0).length := by rw [starts_cons s 0 (by omega)]; simp
      have hls := starts_len s s.size 0 (by omega)
      unfold allP
      rw [if_pos h0, expl]
      have hz : (ByteArray.empty).size = 0 := h0
      rw [hz]
      have hN : eN s n = (starts s 0).length := by rw [eN, if_pos (Or.inl (by omega))]
      rw [hN, hL, if_neg (by omega), brkE_whole s _ (by omega), brkE_whole s _ (by omega)]
    rw [e]
    exact this
  · have h1 : 1 ≤ sep.size := by omega
    have hE : s.toList.isEmpty = false ∨ (s.toList.isEmpty = true ∧ sep.toList.isEmpty = false) := by
      cases hc : s.toList.isEmpty with
      | false => exact .inl rfl
      | true => exact .inr ⟨rfl, neS h1⟩
    have := SePieces_keepW s sep n (brk s sep 0 (lim s 9223372036854775807)) w hs hp hn' hE (Lib.hid (fun W => by rw [hw]; exact SeBreaks_sep s sep 9223372036854775807 W hs hp h1 (by decide))) (Lib.hid (okB_brk s sep h1 (s.size + 1) 0 _ (by omega) (Nat.zero_le _) 0 (Nat.le_refl _))) (by have := brk_len s sep h1 (s.size + 1) 0 (lim s 9223372036854775807) (by omega); omega)
    have e : allP s sep sep.size n = piecesOf s sep.size sep.size 0 (brk s sep 0 (lim s 9223372036854775807)) := by
      unfold allP
      rw [if_neg h0]
      exact pcs_pieces s sep sep.size n _ h1 (Nat.le_refl _) (by omega) (fun h => by rw [hL]; omega) (fun h => by omega)
    rw [e]
    exact this

/-- The reference's pieces, whatever the texts and the number. -/
theorem SePiecesK_n (s sep : ByteArray) (n : Int) (w : World) (hs : s.size < 2147483648) (hp : sep.size < 2147483648) (hlo : -9223372036854775808 ≤ n) (hhi : n ≤ 9223372036854775807) :
    Calls Tryd.prog 12 #[.string s, .string sep, .int .i64 n, .bool true] w fun e W' => ∃ v, e = .returned v ∧ StrsAt W' v (nP s sep sep.size n) ∧ Below w.heap.size w W' := by
  unfold nP
  by_cases h0 : n = 0
  · subst h0
    rw [if_pos rfl]
    exact (SePieces_zero s sep true w).mono fun e w' ⟨he, hw⟩ => ⟨_, he, StrsAt.nil _, hw ▸ Below.refl _ _⟩
  · rw [if_neg h0]
    by_cases hm : n = -9223372036854775808
    · by_cases hne : 1 ≤ s.size ∨ 1 ≤ sep.size
      · exact SePiecesK_min s sep n hm w hs hp hne
      · rw [emptyS s (by omega), emptyS sep (by omega), allPK_both]
        exact (SePiecesK_both n w).mono fun e w' ⟨he, hw⟩ => ⟨_, he, StrsAt.nil _, hw ▸ Below.refl _ _⟩
    · exact SePiecesK_all s sep n w hs hp h0 (by omega) hhi

end Go.Proofs.YtpaieadnicmplaaDoor

/- SeBreaks at the empty text; SePieces. -/
import Derived.Test.YtpaieadnicmplaaDoorBrk
set_option linter.unusedVariables false
namespace Go.Proofs.YtpaieadnicmplaaDoor
open Go.RowKit Go.Lib

/-- The places rise, with room for what parts the pieces. -/
def okB (s : ByteArray) (sl : Nat) : Nat → List Nat → Prop
  | a, [] => a ≤ s.size
  | a, i :: r => a ≤ i ∧ i + sl ≤ s.size ∧ okB s sl (i + sl) r
theorem okB_brk (s sep : ByteArray) (h1 : 1 ≤ sep.size) : ∀ n a m, s.size + 1 - a ≤ n → a ≤ s.size → ∀ b, b ≤ a → okB s sep.size b (brk s sep a m)
  | n, a, m, hn, ha, b, hb => by
    by_cases h : a + sep.size ≤ s.size ∧ 0 < m
    · match n, hn with
      | 0, hn => omega
      | n + 1, hn =>
        obtain ⟨k, rfl⟩ : ∃ k, m = k + 1 := ⟨m - 1, by omega⟩
        cases hat : atB s sep a with
        | true =>
          rw [brk_hit s sep a k h1 h.1 hat]
          exact ⟨hb, h.1, okB_brk s sep h1 n (a + sep.size) k (by omega) (by omega) _ (Nat.le_refl _)⟩
        | false =>
          rw [brk_step s sep a _ h.1 hat]
          exact okB_brk s sep h1 n (a + 1) (k + 1) (by omega) (by omega) b (by omega)
    · rw [brk_end s sep a m h]; show b ≤ s.size; omega
theorem okB_take (s : ByteArray) (sl : Nat) : ∀ (l : List Nat) a m, okB s sl a l → okB s sl a (l.take m)
  | [], a, m, h => by simpa using h
  | i :: r, a, 0, h => by
    have : a ≤ s.size := by have := h.1; have := h.2.1; omega
    simpa [okB] using this
  | i :: r, a, m + 1, h => ⟨h.1, h.2.1, okB_take s sl r _ m h.2.2⟩
theorem okB_starts (s : ByteArray) : ∀ n a, s.size - a ≤ n → ∀ b, b ≤ a → b ≤ s.size → okB s 0 b (starts s a)
  | n, a, hn, b, hb, hbs => by
    by_cases ha : a < s.size
    · have hw := decode_width_pos s a ha
      rw [starts_cons s a ha]
      match n, hn with
      | 0, hn => omega
      | n + 1, hn => exact ⟨hb, by omega, okB_starts s n (a + (Utf8.decode s a).2) (by omega) (a + 0) (by omega) (by omega)⟩
    · rw [starts_end s a (by omega)]; exact hbs

/-- The places at which code points begin, but for the first one, at most so many. -/
def brkE (s : ByteArray) (M : Nat) : List Nat := ((starts s 0).drop 1).take M
theorem okB_brkE (s : ByteArray) (M : Nat) : okB s 0 0 (brkE s M) := by
  unfold brkE
  refine okB_take s 0 _ 0 M ?_
  by_cases h : 0 < s.size
  · rw [starts_cons s 0 h]
    have := decode_end s 0 h
    exact okB_starts s s.size _ (by omega) 0 (Nat.zero_le _) (Nat.zero_le _)
  · rw [starts_end s 0 (by omega)]; exact Nat.zero_le _

theorem drop1_snoc {l : List Nat} {k a : Nat} (h : l[k]? = some a) (hk : 0 < k) : (l.take (k + 1)).drop 1 = (l.take k).drop 1 ++ [a] := by
  have hl := (List.getElem?_eq_some_iff.1 h).1
  rw [take_snoc' h, List.drop_append_of_le_length (by rw [List.length_take]; omega)]
theorem take_snoc_lt {l : List Nat} {a M : Nat} (h : l.length < M) : (l ++ [a]).take M = l ++ [a] := List.take_of_length_le (by simp; omega)
theorem take_snoc_ge {l : List Nat} {a M : Nat} (h : M ≤ l.length) : (l ++ [a]).take M = l.take M := List.take_append_of_le_length h

set_option maxRecDepth 100000 in
set_option maxHeartbeats 4000000 in
theorem SeBreaks_empty (s : ByteArray) (most : Int) (w : World) (hs : s.size < 2147483648) (hm63 : most ≤ 9223372036854775807) :
    Calls Tryd.prog 27 #[.string s, .string ByteArray.empty, .int .i64 most] w fun e W' => ∃ v, e = .returned v ∧ IntsAt W' v (brkE s (lim s most)) ∧ Below w.heap.size w W' := by
  obtain ⟨i0, hi, hz0, hz1, hz2⟩ := info_parts int_info
  have hlen := starts_len s s.size 0 (by omega)
  obtain ⟨M, hM⟩ : ∃ M, M = lim s most := ⟨_, rfl⟩
  have hM1 : most < 0 → M = s.size + 1 := fun h => by rw [hM, lim, if_pos h]
  have hM2 : ¬ most < 0 → (M : Int) = most := fun h => by rw [hM, lim, if_neg h]; omega
  unfold brkE
  rw [← hM]
  have HM1 := Lib.hid hM1
  have HM2 := Lib.hid hM2
  clear hM hM1 hM2
  go_enter Tryd.func27, Tryd.ntmps27
  go_wp2_with fail
  refine (SeStarts s _ (by omega)).mono ?_
  rintro e w1 ⟨v, rfl, hI, hB1⟩
  obtain ⟨A, cp, rfl, hc, hx⟩ := hI
  obtain ⟨xs, hxs⟩ : ∃ xs, xs = starts s 0 := ⟨_, rfl⟩
  rw [← hxs] at hlen hc hx ⊢
  have HX := Lib.hid hx
  have HB1 := Lib.hid hB1
  have HXS := Lib.hid hxs
  clear hx hB1 hxs
  have hB1s := HB1.out.size
  go_wp2_with fail
  go_loopg [7, 16] xs.length (fun g v iv W => ∃ (k : Nat) (dn : List Nat), k ≤ xs.length ∧ xs.length ≤ k + g ∧ iv = .int .i64 k ∧ Hid (dn = ((xs.take k).drop 1).take M) ∧ dn.length ≤ M ∧ dn.length ≤ k ∧ Hid (W.ownsRow w1.heap.size 3 1 v dn.length (ints dn)) ∧ Hid (Below w1.heap.size w1 W) ∧ ∃ a c, v = .slice a dn.length c)
  case atStart => exact ⟨0, [], Nat.zero_le _, by omega, rfl, Lib.hid (by simp), Nat.zero_le _, Nat.zero_le _, World.ownsRow_nil _ _ _ _, Below.refl _ _, none, 0, rfl⟩
  case round =>
    obtain ⟨k, dn, hk, hg, rfl, HD, hdM, hdk, HR, HB, a', c', rfl⟩ := hrel
    have hBs := HB.out.size
    by_cases hlt : k < xs.length
    · obtain ⟨u, hu⟩ : ∃ u, xs[k]? = some u := ⟨xs[k], List.getElem?_eq_getElem hlt⟩
      obtain ⟨g, o, rfl, hg', hcell⟩ := HX.out (by rintro rfl; simp at hlt)
      have hcu : wr.cell? ⟨g, o + k, none⟩ = some (.int .i64 (u : Int)) := (HB.out.cell (p := ⟨g, o + k, none⟩) hg').trans (hcell k u hu)
      have hmx : dn.length + 1 ≤ maxLen := by unfold maxLen; omega
      by_cases hk0 : 0 < k
      · have hsn := drop1_snoc hu hk0
        by_cases hdlt : dn.length < M
        · have hor : most < 0 ∨ ((dn.length : Int) < most ∧ ¬ most < 0) := by
            by_cases h : most < 0
            · exact .inl h
            · have := HM2.out (by omega); exact .inr ⟨by omega, h⟩
          have HN : Hid (dn ++ [u] = ((xs.take (k + 1)).drop 1).take M) := by
            have hd := HD.out
            have hl : ((xs.take k).drop 1).length < M := by
              have := congrArg List.length hd
              rw [List.length_take] at this
              omega
            have e : dn = (xs.take k).drop 1 := hd.trans (List.take_of_length_le (by omega))
            show _ = _
            rw [hsn, take_snoc_lt hl, ← e]
          clear hcell hu hsn
          rcases hor with hor | ⟨hor, hor2⟩
          all_goals
            go_wp2_with (at_builtin; refine wpList_append_own _ rfl _ _ 40 rfl w1.heap.size 3 i0 (.int .i64 0) 1 8 Tryd.underlying40 hi hz0 hz1 hz2 rfl (by decide) _ _ _ rfl (HR.out.alloc _) ⟨wr.heap.size, 0, none⟩ 1 1 [.int .i64 (u : Int)] rfl rfl (cell_one_new _ _ _) (by simp [Value.oneCell']) hmx (by omega) (by simp; omega) ?_; intro v' w2 hown' hgrow _; have hB2 : Below w1.heap.size w1 w2 := (HB.out.alloc hBs _).grown hgrow (by simp; omega) (fun j ej => (HR.out.lt j ej).1); obtain ⟨g', cap', rfl⟩ := ownsRow_succ hown'; have HO := Lib.hid hown'; have HB2 := Lib.hid hB2; clear hown' hgrow hB2)
            go_roundg (gk - 1)
            case measure => omega
            case rel => exact ⟨k + 1, dn ++ [u], by omega, by omega, by go_num, HN, by simp; omega, by simp; omega, Lib.hid (by have := HO.out; simpa [ints] using this), HB2, some ⟨g', 0, none⟩, cap', by simp⟩
        · have hnn : ¬ most < 0 := fun h => by have := HM1.out h; omega
          have h2 := HM2.out (by omega)
          have hxx : ¬ ((dn.length : Int) < most) := by omega
          have hnd : decide (most < 0) = false := decide_eq_false hnn
          have HN : Hid (dn = ((xs.take (k + 1)).drop 1).take M) := by
            have hd := HD.out
            have hl : M ≤ ((xs.take k).drop 1).length := by
              have := congrArg List.length hd
              rw [List.length_take] at this
              omega
            show _ = _
            rw [hsn, take_snoc_ge hl]; exact hd
          clear hcell hu hsn h2
          go_wp2
          go_roundg (gk - 1)
          case measure => omega
          case rel => exact ⟨k + 1, dn, by omega, by omega, by go_num, HN, hdM, by omega, HR, HB, _, _, rfl⟩
      · obtain rfl : k = 0 := by omega
        have hd0 : dn = [] := List.eq_nil_of_length_eq_zero (by omega)
        have HN : Hid (dn = ((xs.take (0 + 1)).drop 1).take M) := by
          show _ = _
          rw [hd0, List.drop_eq_nil_of_le (by rw [List.length_take]; omega), List.take_nil]
        have hcu0 : wr.cell? ⟨g, o, none⟩ = some (.int .i64 (u : Int)) := hcu
        rw [show ((0 : Nat) : Int) = (0 : Int) from rfl]
        clear hcu
        clear hcell hu hd0
        go_wp2
        go_roundg (gk - 1)
        case measure => omega
        case rel => exact ⟨1, dn, by omega, by omega, rfl, HN, hdM, by omega, HR, HB, _, _, rfl⟩
    · have HT : Hid (IntsAt wr (.slice a' dn.length c') ((xs.drop 1).take M)) := by
        have hd := HD.out
        have hke : k = xs.length := by omega
        rw [hke, List.take_length] at hd
        have := IntsAt.of_own HR.out
        rw [← hd]
        exact this
      go_wp2
      go_ret
      exact ⟨_, rfl, HXS.out ▸ HT.out, HB1.out.trans (HB.out.mono hB1s)⟩
end Go.Proofs.YtpaieadnicmplaaDoor

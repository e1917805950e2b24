/- FnLinesJoin: the plain law of the lines, the walk. -/
import Derived.Test.YtggjdibahpnclaaWStrLines
import Derived.Test.YtggjdibahpnclaaJoin
namespace Go.Proofs.Ytggjdibahpnclaa
open Go.RowKit Go.Lib

theorem join_empty : ∀ l : List (List UInt8), join l [] = l.flatten
  | [] => rfl
  | x :: r => by rw [join_cons]; simp [joinTail]

theorem ib_take {l : List UInt8} {c : UInt8} {k : Nat} (h : indexByte l c = k) : indexByte (l.take (k + 1)) c = k := by
  obtain ⟨h1, h2⟩ := indexByte_some h
  refine ib_hit (fun j hj => ?_) ?_
  · rw [List.getElem?_take_of_lt (by omega)]; exact h2 j hj
  · rw [List.getElem?_take_of_lt (by omega)]; exact h1

theorem linesFrom_prop (s : ByteArray) : ∀ f a j u, (linesFrom s f a)[j]? = some u → 0 < u.size ∧ u.size ≤ s.size ∧ (indexByte u.data.toList 10 = (u.size : Int) - 1 ∨ (indexByte u.data.toList 10 = -1 ∧ j + 1 = (linesFrom s f a).length))
  | 0, a, j, u, h => by simp [linesFrom] at h
  | f + 1, a, j, u, h => by
    by_cases h1 : s.size ≤ a
    · rw [linesFrom, if_pos h1] at h; simp at h
    · have hd : s.data.toList.length = s.size := by simp
      rcases ib_cases (s.data.toList.drop a) 10 with hm | ⟨k, hk, hkl⟩
      · have e : linesFrom s (f + 1) a = [s.extract a s.size] := by rw [linesFrom, if_neg h1, if_pos (by omega)]
        rw [e] at h ⊢
        cases j with
        | succ j => simp at h
        | zero =>
          simp at h
          subst h
          refine ⟨by rw [ByteArray.size_extract]; omega, by rw [ByteArray.size_extract]; omega, .inr ⟨?_, rfl⟩⟩
          rw [extract_data, List.take_of_length_le (by simp)]
          exact hm
      · have e : linesFrom s (f + 1) a = s.extract a (a + k + 1) :: linesFrom s f (a + k + 1) := by rw [linesFrom, if_neg h1, if_neg (by omega), hk, Int.toNat_natCast]
        rw [e] at h ⊢
        have hkl' : k < s.size - a := by rw [List.length_drop, hd] at hkl; exact hkl
        cases j with
        | zero =>
          simp at h
          subst h
          have hz : (s.extract a (a + k + 1)).size = k + 1 := by rw [ByteArray.size_extract]; omega
          refine ⟨by omega, by omega, .inl ?_⟩
          rw [extract_data, show a + k + 1 - a = k + 1 by omega, ib_take hk, hz]
          omega
        | succ j =>
          have := linesFrom_prop s f (a + k + 1) j u (by simpa using h)
          refine ⟨this.1, this.2.1, this.2.2.imp id fun h => ⟨h.1, ?_⟩⟩
          rw [List.length_cons, ← h.2]

theorem linesAt_flat (s : ByteArray) : ∀ n a, s.size - a ≤ n → ((linesAt s a).map (·.data.toList)).flatten = s.data.toList.drop a
  | n, a, h => by
    have hd : s.data.toList.length = s.size := by simp
    by_cases h1 : s.size ≤ a
    · rw [linesAt_end s a h1, List.drop_eq_nil_of_le (by omega)]; rfl
    · rcases ib_cases (s.data.toList.drop a) 10 with hm | ⟨k, hk, hkl⟩
      · rw [linesAt_last s a (by omega) hm]
        simp only [List.map_cons, List.map_nil, List.flatten_cons, List.flatten_nil, List.append_nil]
        rw [extract_data]; exact List.take_of_length_le (by simp)
      · have hkl' : k < s.size - a := by rw [List.length_drop, hd] at hkl; exact hkl
        rw [linesAt_cons s a k (by omega) hk]
        match n, h with
        | 0, h => omega
        | n + 1, h =>
          simp only [List.map_cons, List.flatten_cons]
          rw [linesAt_flat s n (a + k + 1) (by omega), extract_data, show a + k + 1 - a = k + 1 by omega, show a + k + 1 = a + (k + 1) by omega, ← List.drop_drop]
          exact List.take_append_drop _ _

theorem lines_join (s : ByteArray) : join ((linesAt s 0).map (·.data.toList)) (ByteArray.data ⟨#[]⟩).toList = s.data.toList := by
  show join _ [] = _
  rw [join_empty, linesAt_flat s s.size 0 (by omega)]; rfl

theorem bytes_toList (u : ByteArray) : u.toList = u.data.toList := Go.ByteArray.toList_eq u

/-- StrJoin over a row that a slice owns. -/
theorem StrJoin (xs : List ByteArray) (v : Value) (sep : ByteArray) (w : World) (hv : StrsAt w v xs) (hN : xs.length ≤ 140737488355328)
    (hlen : (Lib.join (xs.map (·.data.toList)) sep.data.toList).length ≤ 140737488355328) :
    Calls Try.prog 39 #[v, .string sep] w fun e w' => e = .returned (.string ⟨(Lib.join (xs.map (·.data.toList)) sep.data.toList).toArray⟩) ∧ Below w.heap.size w w' := by
  obtain ⟨A, c, rfl, hc, hx⟩ := hv
  go_enter Try.func39, Try.ntmps39
  go_wp2_with fail
  by_cases h0 : xs = []
  · subst h0
    refine (gJoin_none A c sep w).mono ?_
    rintro e w' ⟨rfl, rfl⟩
    go_wp2_with fail
    go_ret
    exact ⟨rfl, Below.refl _ _⟩
  · obtain ⟨g, o, rfl, hg, hcell⟩ := hx h0
    refine (gJoin g o c xs sep w hcell hg hN hc hlen).mono ?_
    rintro e w' ⟨rfl, hB⟩
    go_wp2_with fail
    go_ret
    exact ⟨rfl, hB⟩

set_option maxRecDepth 100000 in
set_option maxHeartbeats 4000000 in
theorem walk_FnLinesJoin (s : ByteArray) (w : World) (_hs : s.size ≤ maxLen) :
    Calls Try.prog 14 #[.string s] w fun e w' => e = .returned (.bool true) ∧ Below w.heap.size w w' := by
  go_enter Try.func14, Try.ntmps14
  by_cases hbig : 2147483647 < s.size
  · go_wp2
    go_ret
    exact ⟨rfl, Below.refl _ _⟩
  · have hs' : s.size < 4294967281 := by omega
    have hlen : (linesAt s 0).length ≤ s.size := by have := linesFrom_len s (s.size + 1 - 0) 0; unfold linesAt; omega
    have Hprop : Hid (∀ j u, (linesAt s 0)[j]? = some u → 0 < u.size ∧ u.size ≤ s.size ∧ (indexByte u.data.toList 10 = (u.size : Int) - 1 ∨ (indexByte u.data.toList 10 = -1 ∧ j + 1 = (linesAt s 0).length))) := linesFrom_prop s _ 0
    have Hj := hidJ (lines_join s)
    go_wp2_with fail
    refine (StrLines s _ hs').mono ?_
    rintro e w1 ⟨v1, rfl, h1, hB1⟩
    have HA := hidJ (StrsAt.of_own h1)
    obtain ⟨A, c, rfl, hc, hx⟩ := HA.out
    obtain ⟨xs, hxs⟩ : ∃ xs, xs = linesAt s 0 := ⟨_, rfl⟩
    rw [← hxs] at Hprop Hj HA hlen hc hx h1 ⊢
    clear hxs
    have Hx := hidJ hx
    have HB1 := hidJ hB1
    clear hx h1 hB1
    go_wp2_with fail
    go_loop [4, 5, 6, 14] (fun _ _ _ i => ∃ k : Nat, k ≤ xs.length ∧ i = .int .i64 k) (fun _ _ _ i => xs.length - (RowKit.intOf i).toNat)
    case atStart => exact ⟨0, Nat.zero_le _, rfl⟩
    case round =>
      obtain ⟨k, hk, rfl⟩ := hrel
      by_cases hlt : k < xs.length
      · obtain ⟨u, hu⟩ : ∃ u, xs[k]? = some u := ⟨xs[k], List.getElem?_eq_getElem hlt⟩
        obtain ⟨g, o, rfl, hg, hcell⟩ := Hx.out (by rintro rfl; simp at hlt)
        have hcu := hcell k u hu
        obtain ⟨hu0, hus, hor⟩ := Hprop.out k u hu
        have hne1 : ¬ u.toList = [] := by rw [bytes_toList]; intro h; have := congrArg List.length h; rw [← Lib.size_eq] at this; simp only [List.length_nil] at this; omega
        have hne2 : u.toList.isEmpty = false := by rw [List.isEmpty_eq_false_iff]; exact hne1
        clear hcell hu
        rcases hor with hi | ⟨hi, hl⟩
        · have hi' : indexByte u.data.toList (10 : Int).toNat.toUInt8 = (u.size : Int) - 1 := hi
          go_wp2_with fail
          refine (StrIndexByte u 10 _ (by decide) (by decide) (by omega)).mono ?_
          rintro e w2 ⟨rfl, rfl⟩
          rw [hi']
          go_wp2_with fail
          all_goals first
            | exact ⟨⟨k + 1, by omega, by go_num⟩, by simp [RowKit.intOf]; omega⟩
            | (exfalso; first | contradiction | omega | (simp_all; done) | (simp_all; omega))
        · have hi' : indexByte u.data.toList (10 : Int).toNat.toUInt8 = -1 := hi
          go_wp2_with fail
          refine (StrIndexByte u 10 _ (by decide) (by decide) (by omega)).mono ?_
          rintro e w2 ⟨rfl, rfl⟩
          rw [hi']
          go_wp2_with fail
          all_goals first
            | exact ⟨⟨k + 1, by omega, by go_num⟩, by simp [RowKit.intOf]; omega⟩
            | (exfalso; first | contradiction | omega | (simp_all; done) | (simp_all; omega))
      · go_wp2_with fail
        refine (StrJoin xs _ ⟨#[]⟩ _ HA.out (by omega) (by rw [Hj.out]; simp; omega)).mono ?_
        rintro e w2 ⟨rfl, hB2⟩
        rw [Hj.out]
        go_wp2_with fail
        obtain ⟨ab, hab⟩ : ∃ ab : ByteArray, ab = ⟨#[97, 10, 98]⟩ := ⟨_, rfl⟩
        rw [← hab]
        refine (StrLines ab _ (by rw [hab]; decide)).mono ?_
        rintro e w4 ⟨v4, rfl, h4, hB4⟩
        rw [hab, lines_ab] at h4
        obtain ⟨A, cp, rfl⟩ := ownsRow_succ h4
        have hBs := HB1.out.size
        have hB := HB1.out.trans (hB2.mono hBs)
        have HB := hidJ (hB.trans (hB4.mono hB.size))
        clear hB hB2 hB4 h4
        go_wp2_with fail
        go_ret
        exact ⟨rfl, HB.out⟩
end Go.Proofs.Ytggjdibahpnclaa

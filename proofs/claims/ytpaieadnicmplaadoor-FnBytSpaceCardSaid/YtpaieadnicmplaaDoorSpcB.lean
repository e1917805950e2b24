/- SeSpace, SeFields. -/
import Derived.Test.YtpaieadnicmplaaDoorBSpc
import Derived.Test.YtpaieadnicmplaaDoorAnyB
set_option linter.unusedVariables false
namespace Go.Proofs.YtpaieadnicmplaaDoor
open Go.RowKit Go.Lib

theorem space_eq (r : Nat) (b : Bool) (h : isSpaceR r = b) : (Ending.returned (Value.bool b) : Ending) = .returned (.bool (isSpaceR r)) := by rw [h]

set_option maxRecDepth 100000 in
set_option maxHeartbeats 4000000 in
theorem SeSpace (r : Nat) (w : World) (hr : r ≤ 1114111) :
    Calls Tryd.prog 35 #[.int .i32 r] w fun e w' => e = .returned (.bool (isSpaceR r)) ∧ w = w' := by
  go_enter Tryd.func35, Tryd.ntmps35
  go_wp2
  all_goals (go_ret; refine ⟨ret_bool ?_, rfl⟩; rw [Bool.eq_iff_iff]; simp [isSpaceR] at * <;> omega)

/-- The pieces by the places at which code points begin. -/
def fldL (s : ByteArray) : List Nat → Option Nat → List ByteArray → List ByteArray
  | [], none, acc => acc
  | [], some a, acc => acc ++ [s.extract a s.size]
  | i :: r, none, acc => if isSpaceR (Utf8.decode s i).1 then fldL s r none acc else fldL s r (some i) acc
  | i :: r, some a, acc => if isSpaceR (Utf8.decode s i).1 then fldL s r none (acc ++ [s.extract a i]) else fldL s r (some a) acc

theorem fldL_spans (s : ByteArray) : ∀ f pos st (acc : List (Nat × Nat)), s.size - pos ≤ f →
    fldL s (starts s pos) st (acc.map fun x => s.extract x.1 x.2) = (closeSpans s (spansFromP isSpaceR s f pos st acc)).map fun x => s.extract x.1 x.2
  | f, pos, st, acc, hf => by
    by_cases hp : pos < s.size
    · have hw := decode_width_pos s pos hp
      match f, hf with
      | 0, hf => omega
      | f + 1, hf =>
        rw [starts_cons s pos hp]
        unfold spansFromP
        rw [if_pos hp]
        cases st with
        | none =>
          rw [fldL]
          by_cases hs : isSpaceR (Utf8.decode s pos).1 = true
          · rw [if_pos hs, if_pos hs]; exact fldL_spans s f _ none acc (by omega)
          · rw [if_neg hs, if_neg hs]; exact fldL_spans s f _ (some pos) acc (by omega)
        | some a =>
          rw [fldL]
          by_cases hs : isSpaceR (Utf8.decode s pos).1 = true
          · rw [if_pos hs, if_pos hs]
            have := fldL_spans s f (pos + (Utf8.decode s pos).2) none (acc ++ [(a, pos)]) (by omega)
            rw [List.map_append] at this
            exact this
          · rw [if_neg hs, if_neg hs]; exact fldL_spans s f _ (some a) acc (by omega)
    · rw [starts_end s pos (by omega), spansFromP_end _ _ _ _ _ _ hp]
      cases st <;> simp [fldL, closeSpans]

theorem fldL_all (s : ByteArray) : fldL s (starts s 0) none [] = goFieldsP isSpaceR s := by
  have := fldL_spans s s.size 0 none [] (by omega)
  rw [List.map_nil] at this
  exact this

theorem starts_ge (s : ByteArray) : ∀ n a, s.size - a ≤ n → ∀ v ∈ starts s a, a ≤ v
  | n, a, hn, v, hv => by
    by_cases ha : a < s.size
    · have hw := decode_width_pos s a ha
      rw [starts_cons s a ha] at hv
      match n, hn with
      | 0, hn => omega
      | n + 1, hn =>
        rcases List.mem_cons.1 hv with rfl | h
        · exact Nat.le_refl _
        · have := starts_ge s n _ (by omega) v h; omega
    · rw [starts_end s a (by omega)] at hv; simp at hv
theorem starts_rise_from (s : ByteArray) : ∀ n a, s.size - a ≤ n → ∀ (k u : Nat), (starts s a)[k]? = some u → ∀ v ∈ (starts s a).drop (k + 1), u ≤ v
  | n, a, hn, k, u, hu, v, hv => by
    by_cases ha : a < s.size
    · have hw := decode_width_pos s a ha
      rw [starts_cons s a ha] at hv hu
      match n, hn with
      | 0, hn => omega
      | n + 1, hn =>
        cases k with
        | zero =>
          rw [List.getElem?_cons_zero] at hu
          obtain rfl := Option.some.inj hu
          rw [List.drop_succ_cons, List.drop_zero] at hv
          have := starts_ge s n _ (by omega) v hv
          omega
        | succ k =>
          rw [List.getElem?_cons_succ] at hu
          rw [List.drop_succ_cons] at hv
          exact starts_rise_from s n _ (by omega) k u hu v hv
    · rw [starts_end s a (by omega)] at hu; simp at hu
theorem starts_rise (s : ByteArray) : ∀ (k u : Nat), (starts s 0)[k]? = some u → ∀ v ∈ (starts s 0).drop (k + 1), u ≤ v := starts_rise_from s s.size 0 (by omega)

set_option maxRecDepth 100000 in
set_option maxHeartbeats 8000000 in
theorem SeFields (s : ByteArray) (w : World) (hs : s.size < 2147483648) :
    Calls Tryd.prog 20 #[.string s] w fun e W' => ∃ v, e = .returned v ∧ StrsAt W' v (goFieldsP isSpaceR s) ∧ Below w.heap.size w W' := by
  obtain ⟨i0, hi, hz0, hz1, hz2⟩ := info_parts str_info
  have hlen := starts_len s s.size 0 (by omega)
  have Hmem : Hid (∀ x ∈ starts s 0, 0 ≤ x ∧ x < s.size) := starts_mem s s.size 0 (by omega)
  rw [← fldL_all]
  have HCS := Lib.hid (SeStarts s w (by omega))
  obtain ⟨xs, hxs⟩ : ∃ xs, xs = starts s 0 := ⟨_, rfl⟩
  rw [← hxs] at hlen Hmem HCS ⊢
  have Hord : Hid (∀ k u, xs[k]? = some u → ∀ v ∈ xs.drop (k + 1), u ≤ v) := Lib.hid (by rw [hxs]; exact starts_rise s)
  obtain ⟨tot, htot⟩ : ∃ tot, tot = fldL s xs none [] := ⟨_, rfl⟩
  rw [← htot]
  have HTot := Lib.hid htot
  clear hxs htot
  go_enter Tryd.func20, Tryd.ntmps20
  go_wp2_with fail
  refine HCS.out.mono ?_
  rintro e w1 ⟨v, rfl, hI, hB1⟩
  obtain ⟨A, cp, rfl, hc, hx⟩ := hI
  have HX := Lib.hid hx
  have HB1 := Lib.hid hB1
  clear hx hB1 HCS
  have hB1s := HB1.out.size
  go_wp2_with fail
  go_loopg [3, 4, 12] xs.length (fun g v av iv W => ∃ (k : Nat) (st : Option Nat) (dn : List ByteArray), k ≤ xs.length ∧ xs.length ≤ k + g ∧ iv = .int .i64 k ∧ dn.length ≤ k ∧ Hid (fldL s (xs.drop k) st dn = tot) ∧ ((st = none ∧ av = .int .i64 (-1)) ∨ ∃ a : Nat, st = some a ∧ av = .int .i64 a ∧ a ≤ s.size ∧ Hid (∀ u ∈ xs.drop k, a ≤ u)) ∧ Hid (W.ownsRow w1.heap.size 9 1 v dn.length (dn.map Value.string)) ∧ Hid (Below w1.heap.size w1 W) ∧ ∃ a c, v = .slice a dn.length c)
  case atStart => exact ⟨0, none, [], Nat.zero_le _, by omega, rfl, Nat.zero_le _, Lib.hid HTot.out.symm, .inl ⟨rfl, rfl⟩, World.ownsRow_nil _ _ _ _, Below.refl _ _, none, 0, rfl⟩
  case round =>
    obtain ⟨k, st, dn, hk, hg, rfl, hdk, HD, hst, HR, HB, a', c', rfl⟩ := hrel
    have hBs := HB.out.size
    have hmx : dn.length + 1 ≤ maxLen := by unfold maxLen; omega
    have hdl : dn.length ≤ 2147483648 := by omega
    by_cases hlt : k < xs.length
    · obtain ⟨u, hu⟩ : ∃ u, xs[k]? = some u := ⟨xs[k], List.getElem?_eq_getElem hlt⟩
      obtain ⟨g, o, rfl, hg', hcell⟩ := HX.out (by rintro rfl; simp at hlt)
      have hcu : wr.cell? ⟨g, o + k, none⟩ = some (.int .i64 (u : Int)) := (HB.out.cell (p := ⟨g, o + k, none⟩) hg').trans (hcell k u hu)
      have hus := (Hmem.out u (List.mem_of_getElem? hu)).2
      have hD := HD.out
      have hrise := Hord.out k u hu
      have hdc := drop_cons' hu
      rw [hdc] at hD
      have cR := SeRune s u wr (by omega) hus
      have hrl := Lib.rune_le s u
      obtain ⟨R, hR⟩ : ∃ R : Nat, (Utf8.decode s u).1 = R := ⟨_, rfl⟩
      rw [hR] at cR hrl
      have cS := fun W => SeSpace R W hrl
      obtain ⟨sp, hsp⟩ : ∃ sp, isSpaceR R = sp := ⟨_, rfl⟩
      rw [hsp] at cS
      have HcS := Lib.hid cS
      have HcR := Lib.hid cR
      have Hrise := Lib.hid hrise
      rcases hst with ⟨rfl, rfl⟩ | ⟨a, rfl, rfl, has, HA⟩
      · rw [fldL, hR, hsp] at hD
        have HD' := Lib.hid hD
        clear hcell cS cR hu hdc hD hsp hR hrise
        cases sp with
        | true =>
          go_wp2_with (first | (go_at_call 30; refine HcR.out.mono ?_; rintro e w2 ⟨rfl, rfl⟩) | (go_at_call 35; refine (HcS.out _).mono ?_; rintro e w2 ⟨rfl, rfl⟩))
          go_roundg (gk - 1)
          case measure => omega
          case rel => exact ⟨k + 1, none, dn, by omega, by omega, by go_num, by omega, Lib.hid (by have := HD'.out; simpa using this), .inl ⟨rfl, rfl⟩, HR, HB, _, _, rfl⟩
        | false =>
          go_wp2_with (first | (go_at_call 30; refine HcR.out.mono ?_; rintro e w2 ⟨rfl, rfl⟩) | (go_at_call 35; refine (HcS.out _).mono ?_; rintro e w2 ⟨rfl, rfl⟩))
          go_roundg (gk - 1)
          case measure => omega
          case rel => exact ⟨k + 1, some u, dn, by omega, by omega, by go_num, by omega, Lib.hid (by have := HD'.out; simpa using this), .inr ⟨u, rfl, rfl, by omega, Hrise⟩, HR, HB, _, _, rfl⟩
      · rw [fldL, hR, hsp] at hD
        have hau : a ≤ u := HA.out u (by rw [hdc]; simp)
        have HA' : Hid (∀ v ∈ xs.drop (k + 1), a ≤ v) := Lib.hid (fun v hv => Nat.le_trans hau (hrise v hv))
        have HD' := Lib.hid hD
        clear hcell cS cR hu hdc hD hsp hR hrise
        cases sp with
        | true =>
          go_wp2_with (first | (go_at_call 30; refine HcR.out.mono ?_; rintro e w2 ⟨rfl, rfl⟩) | (go_at_call 35; refine (HcS.out _).mono ?_; rintro e w2 ⟨rfl, rfl⟩) | (at_builtin; refine wpList_append_own _ rfl _ _ 28 rfl w1.heap.size 9 i0 (.string ByteArray.empty) 1 16 Tryd.underlying28 hi hz0 hz1 hz2 rfl (by decide) _ _ _ rfl (HR.out.alloc _) ⟨wr.heap.size, 0, none⟩ 1 1 [.string (s.extract a u)] rfl rfl (cell_one_new _ _ _) (by simp [Value.oneCell']) hmx (by omega) (by simp; omega) ?_; intro v' w2 hown' hgrow _; have hB2 : Below w1.heap.size w1 w2 := (HB.out.alloc hBs _).grown hgrow (by simp; omega) (fun j ej => (HR.out.lt j ej).1); obtain ⟨g', cap', rfl⟩ := ownsRow_succ hown'; have HW := Lib.hid hown'; have HB2 := Lib.hid hB2; clear hown' hgrow hB2))
          go_roundg (gk - 1)
          case measure => omega
          case rel => exact ⟨k + 1, none, dn ++ [s.extract a u], by omega, by omega, by go_num, by simp; omega, Lib.hid (by have := HD'.out; simpa using this), .inl ⟨rfl, rfl⟩, Lib.hid (by have := HW.out; simpa using this), HB2, some ⟨g', 0, none⟩, cap', by simp⟩
        | false =>
          go_wp2_with (first | (go_at_call 30; refine HcR.out.mono ?_; rintro e w2 ⟨rfl, rfl⟩) | (go_at_call 35; refine (HcS.out _).mono ?_; rintro e w2 ⟨rfl, rfl⟩))
          go_roundg (gk - 1)
          case measure => omega
          case rel => exact ⟨k + 1, some a, dn, by omega, by omega, by go_num, by omega, Lib.hid (by have := HD'.out; simpa using this), .inr ⟨a, rfl, rfl, has, HA'⟩, HR, HB, _, _, rfl⟩
    · have hD := HD.out
      rw [List.drop_eq_nil_of_le (by omega)] at hD
      rcases hst with ⟨rfl, rfl⟩ | ⟨a, rfl, rfl, has, HA⟩
      · rw [fldL] at hD
        have HT : Hid (StrsAt wr (.slice a' dn.length c') tot) := Lib.hid (by rw [← hD]; exact StrsAt.of_own HR.out)
        clear hD
        go_wp2_with fail
        go_ret
        exact ⟨_, rfl, HT.out, HB1.out.trans (HB.out.mono hB1s)⟩
      · rw [fldL] at hD
        have HT := Lib.hid hD
        clear hD
        go_wp2_with (at_builtin; refine wpList_append_own _ rfl _ _ 28 rfl w1.heap.size 9 i0 (.string ByteArray.empty) 1 16 Tryd.underlying28 hi hz0 hz1 hz2 rfl (by decide) _ _ _ rfl (HR.out.alloc _) ⟨wr.heap.size, 0, none⟩ 1 1 [.string (s.extract a s.size)] rfl rfl (cell_one_new _ _ _) (by simp [Value.oneCell']) hmx (by omega) (by simp; omega) ?_; intro v' w2 hown' hgrow _; have hB2 : Below w1.heap.size w1 w2 := (HB.out.alloc hBs _).grown hgrow (by simp; omega) (fun j ej => (HR.out.lt j ej).1); obtain ⟨g', cap', rfl⟩ := ownsRow_succ hown'; have HW := Lib.hid hown'; have HB2 := Lib.hid hB2; clear hown' hgrow hB2)
        have HS : Hid (StrsAt w2 (.slice (some ⟨g', 0, none⟩) (dn.length + 1) cap') tot) := by
          rw [← HT.out]
          exact StrsAt.of_own (by have := HW.out; simpa using this)
        go_ret
        exact ⟨_, rfl, HS.out, HB1.out.trans (HB2.out.mono hB1s)⟩
end Go.Proofs.YtpaieadnicmplaaDoor

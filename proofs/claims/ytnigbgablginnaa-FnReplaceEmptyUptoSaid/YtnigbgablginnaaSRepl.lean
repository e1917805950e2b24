/- The reference's words: firstAt, Replaced. -/
import Derived.Test.YtnigbgablginnaaGenS
set_option linter.unusedVariables false
namespace Go.Proofs.Ytnigbgablginnaa
open Go.RowKit Go.Lib

theorem fits_at (s x y : ByteArray) (k : Nat) (e : Bool) (hk : k ≤ s.size) : fits e (s.data.toList.drop k) (x.data.toList, y.data.toList) = ((e || decide (1 ≤ x.size)) && atB s x k) := by
  rw [atB_occ s x k hk]
  unfold fits occAt
  have : (!x.data.toList.isEmpty) = decide (1 ≤ x.size) := by
    have := Lib.size_eq x
    cases h : x.data.toList with
    | nil => rw [h] at this; simp at this; rw [this]; rfl
    | cons a b => rw [h] at this; simp at this; rw [decide_eq_true (by omega)]; rfl
  rw [this]
def FstR (xs : List ByteArray) (t : Bs) (e : Bool) (w : World) (en : Ending) (w' : World) : Prop := w = w' ∧
  ((∃ (j : Nat) (a b : ByteArray), en = .returned (.int .i64 ((2 * j : Nat) : Int)) ∧ xs[2 * j]? = some a ∧ xs[2 * j + 1]? = some b ∧ firstP (prs xs) t e = some (a.data.toList, b.data.toList)) ∨ (en = .returned (.int .i64 (-1)) ∧ firstP (prs xs) t e = none))
set_option maxRecDepth 100000 in
set_option maxHeartbeats 2000000 in
theorem firstAt (xs : List ByteArray) (v : Value) (s : ByteArray) (k : Nat) (e : Bool) (w : World) (hv : StrsAt w v xs) (he : xs.length % 2 = 0) (hm : xs.length ≤ 2147483647) (hz : ∀ x ∈ xs, x.size < 140737488355328) (hs : s.size < 140737488355328) (hk : k ≤ s.size) :
    Calls Try.prog 46 #[v, .string s, .int .i64 k, .bool e] w (FstR xs (s.data.toList.drop k) e w) := by
  obtain ⟨A, c, rfl⟩ := hv.shape
  obtain ⟨_, hc, hcells⟩ := hv.cells
  have HC := Lib.hid hcells
  have HZ := Lib.hid hz
  have HFA := Lib.hid (fun x y => fits_at s x y k e hk)
  have HPL := Lib.hid (prs_length xs)
  clear hv hcells hz
  generalize hl : xs.length = n at hc hm he HPL
  have HL := Lib.hid hl
  have HE := Lib.hid he
  clear hl he
  go_enter Try.func46, Try.ntmps46
  go_wp2
  go_loop [9] (fun iv => ∃ (i j : Nat), i ≤ n ∧ iv = .int .i64 i ∧ Hid (i = 2 * j) ∧ Hid (NoFit (prs xs) (s.data.toList.drop k) e j)) (fun iv => n - (RowKit.intOf iv).toNat)
  case atStart => exact ⟨0, 0, Nat.zero_le _, rfl, Lib.hid rfl, Lib.hid (NoFit.zero _ _ _)⟩
  case round =>
    obtain ⟨i, j, hin, rfl, HI, HN⟩ := hrel
    by_cases hlt : i + 1 < n
    · obtain ⟨x, hx⟩ : ∃ x, xs[i]? = some x := ⟨_, List.getElem?_eq_getElem (by have := HL.out; omega)⟩
      obtain ⟨y, hy⟩ : ∃ y, xs[i + 1]? = some y := ⟨_, List.getElem?_eq_getElem (by have := HL.out; omega)⟩
      obtain ⟨G, o, rfl, hG, hcell⟩ := HC.out i x hx
      have hxz := HZ.out x (List.mem_of_getElem? hx)
      have hx2 : xs[2 * j]? = some x := by rw [← HI.out]; exact hx
      have hy2 : xs[2 * j + 1]? = some y := by rw [← HI.out]; exact hy
      have HX := Lib.hid (prs_get xs j x y hx2 hy2)
      have HXX := Lib.hid hx2
      have HYY := Lib.hid hy2
      have hltz : (i : Int) + 1 < (n : Int) := by omega
      have HS := Lib.hid (StartsAt s x k w hs hxz (by omega) (by omega))
      clear hx hy hx2 hy2
      have hfa := HFA.out x y
      by_cases hf : fits e (s.data.toList.drop k) (x.data.toList, y.data.toList) = true
      · have HR : Hid (FstR xs (s.data.toList.drop k) e w (.returned (.int .i64 i)) w) := Lib.hid ⟨rfl, .inl ⟨j, x, y, by rw [HI.out], HXX.out, HYY.out, HN.out.hit HX.out hf⟩⟩
        rw [hf] at hfa
        have hfa2 := hfa.symm
        rw [Bool.and_eq_true] at hfa2
        obtain ⟨ha, hb⟩ := hfa2
        rw [hb] at HS
        clear hfa hf hb
        cases e with
        | true =>
          clear ha
          go_wp2_with (go_at_call 38; (with_reducible refine HS.out.mono ?_); rintro e w' ⟨rfl, rfl⟩)
          go_ret
          exact HR.out
        | false =>
          have hx1 : 1 ≤ x.size := by simpa using ha
          have hne := neB hx1
          have hne2 := neB2 hx1
          clear ha
          go_wp2_with (go_at_call 38; (with_reducible refine HS.out.mono ?_); rintro e w' ⟨rfl, rfl⟩)
          go_ret
          exact HR.out
      · have hf' : fits e (s.data.toList.drop k) (x.data.toList, y.data.toList) = false := by simpa using hf
        have HN2 := Lib.hid (HN.out.succ HX.out hf')
        rw [hf'] at hfa
        clear hf hf'
        cases e with
        | true =>
          have hb : atB s x k = false := by simpa using hfa.symm
          rw [hb] at HS
          clear hfa hb
          go_wp2_with (go_at_call 38; (with_reducible refine HS.out.mono ?_); rintro e w' ⟨rfl, rfl⟩)
          go_round
          case rel => exact ⟨i + 2, j + 1, by have := HE.out; have := HI.out; omega, by go_num, Lib.hid (by have := HI.out; omega), HN2⟩
          case measure => simp [RowKit.intOf]; omega
        | false =>
          by_cases hx1 : 1 ≤ x.size
          · have hb : atB s x k = false := by simpa [hx1] using hfa.symm
            rw [hb] at HS
            have hne := neB hx1
            have hne2 := neB2 hx1
            clear hfa hb
            go_wp2_with (go_at_call 38; (with_reducible refine HS.out.mono ?_); rintro e w' ⟨rfl, rfl⟩)
            go_round
            case rel => exact ⟨i + 2, j + 1, by have := HE.out; have := HI.out; omega, by go_num, Lib.hid (by have := HI.out; omega), HN2⟩
            case measure => simp [RowKit.intOf]; omega
          · obtain rfl := emptyB x (by omega)
            clear hfa HS
            go_wp2_with fail
            go_round
            case rel => exact ⟨i + 2, j + 1, by have := HE.out; have := HI.out; omega, by go_num, Lib.hid (by have := HI.out; omega), HN2⟩
            case measure => simp [RowKit.intOf]; omega
    · have hltz : ¬ ((i : Int) + 1 < (n : Int)) := by omega
      have HR : Hid (FstR xs (s.data.toList.drop k) e w (.returned (.int .i64 (-1))) w) := Lib.hid ⟨rfl, .inr ⟨rfl, HN.out.miss (by rw [HPL.out]; have := HI.out; have := HE.out; omega)⟩⟩
      go_wp2
      go_ret
      exact HR.out
def RI (ps : List (Bs × Bs)) (s out : Bs) (i : Nat) (e : Bool) : Prop := out ++ repl ps (s.drop i) e = repl ps s true
theorem RI.len {ps : List (Bs × Bs)} {s out : Bs} {i : Nat} {e : Bool} (h : RI ps s out i e) : out.length ≤ (repl ps s true).length := by
  unfold RI at h
  rw [← h, List.length_append]; omega
theorem RI.hit {ps : List (Bs × Bs)} {s out : Bs} {i : Nat} {e : Bool} (h : RI ps s out i e) {p : Bs × Bs} (hf : firstP ps (s.drop i) e = some p) (hi : i ≤ s.length) : RI ps s (out ++ p.2) (i + p.1.length) (!p.1.isEmpty) ∧ i + p.1.length ≤ s.length := by
  unfold RI at h ⊢
  rw [repl_hit hf, List.drop_drop] at h
  refine ⟨by rw [List.append_assoc]; exact h, ?_⟩
  obtain ⟨r, hr⟩ := fits_pre (firstP_fits hf)
  have := congrArg List.length hr
  rw [List.length_drop, List.length_append] at this
  omega
theorem RI.done {ps : List (Bs × Bs)} {s out : Bs} {e : Bool} (h : RI ps s out s.length e) (hf : firstP ps (s.drop s.length) e = none) : out = repl ps s true := by
  unfold RI at h
  rw [List.drop_length] at h hf
  rw [repl_end hf, List.append_nil] at h
  exact h
theorem RI.step {ps : List (Bs × Bs)} {s out : Bs} {i : Nat} {e : Bool} (h : RI ps s out i e) (hi : i < s.length) (hf : firstP ps (s.drop i) e = none) : RI ps s (out ++ [s[i]]) (i + 1) true := by
  unfold RI at h ⊢
  rw [List.drop_eq_getElem_cons hi] at h hf
  rw [repl_step hf] at h
  rw [List.append_assoc]
  exact h
end Go.Proofs.Ytnigbgablginnaa

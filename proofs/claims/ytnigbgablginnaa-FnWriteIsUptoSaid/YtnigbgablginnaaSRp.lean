/- SRepl SRepd (merged by merge.py). -/
import Derived.Test.YtnigbgablginnaaGenS
import Derived.Lib.AppendStr
/- The reference's words: firstAt, Replaced. -/
set_option linter.unusedVariables false
namespace Go.Proofs.Ytnigbgablginnaa
open Go.RowKit Go.Lib

theorem fits_at (s x y : ByteArray) (k : Nat) (e : Bool) (hk : k ≤ s.size) : fits e (s.data.toList.drop k) (x.data.toList, y.data.toList) = ((e || decide (1 ≤ x.size)) && atB s x k) := by
  rw [atB_occ s x k hk]
  unfold fits occAt
  have : (!x.data.toList.isEmpty) = decide (1 ≤ x.size) := by
    have := Lib.size_eq x
    cases h : x.data.toList with
    | nil => rw [h] at this; simp at this; rw [this]; rfl
    | cons a b => rw [h] at this; simp at this; rw [decide_eq_true (by omega)]; rfl
  rw [this]
def FstR (xs : List ByteArray) (t : Bs) (e : Bool) (w : World) (en : Ending) (w' : World) : Prop := w = w' ∧
  ((∃ (j : Nat) (a b : ByteArray), en = .returned (.int .i64 ((2 * j : Nat) : Int)) ∧ xs[2 * j]? = some a ∧ xs[2 * j + 1]? = some b ∧ firstP (prs xs) t e = some (a.data.toList, b.data.toList)) ∨ (en = .returned (.int .i64 (-1)) ∧ firstP (prs xs) t e = none))
set_option maxRecDepth 100000 in
set_option maxHeartbeats 2000000 in
theorem firstAt (xs : List ByteArray) (v : Value) (s : ByteArray) (k : Nat) (e : Bool) (w : World) (hv : StrsAt w v xs) (he : xs.length % 2 = 0) (hm : xs.length ≤ 2147483647) (hz : ∀ x ∈ xs, x.size < 140737488355328) (hs : s.size < 140737488355328) (hk : k ≤ s.size) :
    Calls Try.prog 46 #[v, .string s, .int .i64 k, .bool e] w (FstR xs (s.data.toList.drop k) e w) := by
  obtain ⟨A, c, rfl⟩ := hv.shape
  obtain ⟨_, hc, hcells⟩ := hv.cells
  have HC := Lib.hid hcells
  have HZ := Lib.hid hz
  have HFA := Lib.hid (fun x y => fits_at s x y k e hk)
  have HPL := Lib.hid (prs_length xs)
  clear hv hcells hz
  generalize hl : xs.length = n at hc hm he HPL
  have HL := Lib.hid hl
  have HE := Lib.hid he
  clear hl he
  go_enter Try.func46, Try.ntmps46
  go_wp2
  go_loop [9] (fun iv => ∃ (i j : Nat), i ≤ n ∧ iv = .int .i64 i ∧ Hid (i = 2 * j) ∧ Hid (NoFit (prs xs) (s.data.toList.drop k) e j)) (fun iv => n - (RowKit.intOf iv).toNat)
  case atStart => exact ⟨0, 0, Nat.zero_le _, rfl, Lib.hid rfl, Lib.hid (NoFit.zero _ _ _)⟩
  case round =>
    obtain ⟨i, j, hin, rfl, HI, HN⟩ := hrel
    by_cases hlt : i + 1 < n
    · obtain ⟨x, hx⟩ : ∃ x, xs[i]? = some x := ⟨_, List.getElem?_eq_getElem (by have := HL.out; omega)⟩
      obtain ⟨y, hy⟩ : ∃ y, xs[i + 1]? = some y := ⟨_, List.getElem?_eq_getElem (by have := HL.out; omega)⟩
      obtain ⟨G, o, rfl, hG, hcell⟩ := HC.out i x hx
      have hxz := HZ.out x (List.mem_of_getElem? hx)
      have hx2 : xs[2 * j]? = some x := by rw [← HI.out]; exact hx
      have hy2 : xs[2 * j + 1]? = some y := by rw [← HI.out]; exact hy
      have HX := Lib.hid (prs_get xs j x y hx2 hy2)
      have HXX := Lib.hid hx2
      have HYY := Lib.hid hy2
      have hltz : (i : Int) + 1 < (n : Int) := by omega
      have HS := Lib.hid (StartsAt s x k w hs hxz (by omega) (by omega))
      clear hx hy hx2 hy2
      have hfa := HFA.out x y
      by_cases hf : fits e (s.data.toList.drop k) (x.data.toList, y.data.toList) = true
      · have HR : Hid (FstR xs (s.data.toList.drop k) e w (.returned (.int .i64 i)) w) := Lib.hid ⟨rfl, .inl ⟨j, x, y, by rw [HI.out], HXX.out, HYY.out, HN.out.hit HX.out hf⟩⟩
        rw [hf] at hfa
        have hfa2 := hfa.symm
        rw [Bool.and_eq_true] at hfa2
        obtain ⟨ha, hb⟩ := hfa2
        rw [hb] at HS
        clear hfa hf hb
        cases e with
        | true =>
          clear ha
          go_wp2_with (go_at_call 38; (with_reducible refine HS.out.mono ?_); rintro e w' ⟨rfl, rfl⟩)
          go_ret
          exact HR.out
        | false =>
          have hx1 : 1 ≤ x.size := by simpa using ha
          have hne := neB hx1
          have hne2 := neB2 hx1
          clear ha
          go_wp2_with (go_at_call 38; (with_reducible refine HS.out.mono ?_); rintro e w' ⟨rfl, rfl⟩)
          go_ret
          exact HR.out
      · have hf' : fits e (s.data.toList.drop k) (x.data.toList, y.data.toList) = false := by simpa using hf
        have HN2 := Lib.hid (HN.out.succ HX.out hf')
        rw [hf'] at hfa
        clear hf hf'
        cases e with
        | true =>
          have hb : atB s x k = false := by simpa using hfa.symm
          rw [hb] at HS
          clear hfa hb
          go_wp2_with (go_at_call 38; (with_reducible refine HS.out.mono ?_); rintro e w' ⟨rfl, rfl⟩)
          go_round
          case rel => exact ⟨i + 2, j + 1, by have := HE.out; have := HI.out; omega, by go_num, Lib.hid (by have := HI.out; omega), HN2⟩
          case measure => simp [RowKit.intOf]; omega
        | false =>
          by_cases hx1 : 1 ≤ x.size
          · have hb : atB s x k = false := by simpa [hx1] using hfa.symm
            rw [hb] at HS
            have hne := neB hx1
            have hne2 := neB2 hx1
            clear hfa hb
            go_wp2_with (go_at_call 38; (with_reducible refine HS.out.mono ?_); rintro e w' ⟨rfl, rfl⟩)
            go_round
            case rel => exact ⟨i + 2, j + 1, by have := HE.out; have := HI.out; omega, by go_num, Lib.hid (by have := HI.out; omega), HN2⟩
            case measure => simp [RowKit.intOf]; omega
          · obtain rfl := emptyB x (by omega)
            clear hfa HS
            go_wp2_with fail
            go_round
            case rel => exact ⟨i + 2, j + 1, by have := HE.out; have := HI.out; omega, by go_num, Lib.hid (by have := HI.out; omega), HN2⟩
            case measure => simp [RowKit.intOf]; omega
    · have hltz : ¬ ((i : Int) + 1 < (n : Int)) := by omega
      have HR : Hid (FstR xs (s.data.toList.drop k) e w (.returned (.int .i64 (-1))) w) := Lib.hid ⟨rfl, .inr ⟨rfl, HN.out.miss (by rw [HPL.out]; have := HI.out; have := HE.out; omega)⟩⟩
      go_wp2
      go_ret
      exact HR.out
def RI (ps : List (Bs × Bs)) (s out : Bs) (i : Nat) (e : Bool) : Prop := out ++ repl ps (s.drop i) e = repl ps s true
theorem RI.len {ps : List (Bs × Bs)} {s out : Bs} {i : Nat} {e : Bool} (h : RI ps s out i e) : out.length ≤ (repl ps s true).length := by
  unfold RI at h
  rw [← h, List.length_append]; omega
theorem RI.hit {ps : List (Bs × Bs)} {s out : Bs} {i : Nat} {e : Bool} (h : RI ps s out i e) {p : Bs × Bs} (hf : firstP ps (s.drop i) e = some p) (hi : i ≤ s.length) : RI ps s (out ++ p.2) (i + p.1.length) (!p.1.isEmpty) ∧ i + p.1.length ≤ s.length := by
  unfold RI at h ⊢
  rw [repl_hit hf, List.drop_drop] at h
  refine ⟨by rw [List.append_assoc]; exact h, ?_⟩
  obtain ⟨r, hr⟩ := fits_pre (firstP_fits hf)
  have := congrArg List.length hr
  rw [List.length_drop, List.length_append] at this
  omega
theorem RI.done {ps : List (Bs × Bs)} {s out : Bs} {e : Bool} (h : RI ps s out s.length e) (hf : firstP ps (s.drop s.length) e = none) : out = repl ps s true := by
  unfold RI at h
  rw [List.drop_length] at h hf
  rw [repl_end hf, List.append_nil] at h
  exact h
theorem RI.step {ps : List (Bs × Bs)} {s out : Bs} {i : Nat} {e : Bool} (h : RI ps s out i e) (hi : i < s.length) (hf : firstP ps (s.drop i) e = none) : RI ps s (out ++ [s[i]]) (i + 1) true := by
  unfold RI at h ⊢
  rw [List.drop_eq_getElem_cons hi] at h hf
  rw [repl_step hf] at h
  rw [List.append_assoc]
  exact h
end Go.Proofs.Ytnigbgablginnaa

/- The reference's Replaced: its walk. -/
set_option linter.unusedVariables false
namespace Go.Proofs.Ytnigbgablginnaa
open Go.RowKit Go.Lib

def bT : Value → Nat
  | .bool true => 1
  | _ => 0
theorem ne_bool (a : ByteArray) : (!decide (a.size = 0)) = (!a.data.toList.isEmpty) := by
  have := Lib.size_eq a
  cases h : a.data.toList with
  | nil => rw [h] at this; simp at this; simp [this]
  | cons x r => rw [h] at this; simp at this; simp [this]
set_option maxRecDepth 100000 in
set_option maxHeartbeats 4000000 in
theorem Replaced {xs : List ByteArray} (h : Few xs) (v : Value) (s : ByteArray) (w : World) (hv : StrsAt w v xs) (hs : s.size ≤ 2097152) :
    Calls Try.prog 33 #[v, .string s] w (TextR (repl (prs xs) s.data.toList true) w) := by
  have hl := few_len h s.data.toList (by rw [← Lib.size_eq]; exact hs)
  obtain ⟨he, hx, hz⟩ := h
  have hsl := Lib.size_eq s
  have HSL := Lib.hid hsl
  have HLN := Lib.hid (Nat.le_trans hl (by decide : 4194305 * 2097153 ≤ 8796099313665))
  have HFA := Lib.hid (fun (k : Nat) (e : Bool) (W : World) (hW : StrsAt W v xs) (hk : k ≤ s.size) => firstAt xs v s k e W hW he hx (fun x hx' => by have := hz x hx'; omega) (by omega) hk)
  have HV := Lib.hid hv
  have HZ := Lib.hid hz
  obtain ⟨A, c, rfl⟩ := hv.shape
  obtain ⟨_, hc, hcells⟩ := hv.cells
  have HC := Lib.hid hcells
  clear hv hcells hz hl he hsl
  generalize hln : xs.length = n at hc hx HFA HV
  have HL := Lib.hid hln
  clear hln
  obtain ⟨i0, hi, hz0, hz1, hz2⟩ := info_parts u8InfoS
  go_enter Try.func33, Try.ntmps33
  go_wp2
  go_loopw [5, 6, 7] (fun ov ev iv W => ∃ (i : Nat) (e : Bool) (out : Bs), iv = .int .i64 i ∧ ev = .bool e ∧ i ≤ s.size ∧ out.length ≤ 8796099313665 ∧ Hid (RI (prs xs) s.data.toList out i e) ∧ Hid (W.ownsRow w.heap.size 5 1 ov out.length (Lib.byteCells out)) ∧ Hid (Below w.heap.size w W)) (fun _ ev iv _ => 2 * (s.size - (RowKit.intOf iv).toNat) + bT ev)
  case atStart => exact ⟨0, true, [], rfl, rfl, Nat.zero_le _, Nat.zero_le _, Lib.hid (by unfold RI; rfl), Lib.hid (World.ownsRow_nil _ _ _ _), Lib.hid (Below.refl _ _)⟩
  case round =>
    obtain ⟨i, e, out, rfl, rfl, hi', hout, HI, HR, HB⟩ := hrel
    have HF := Lib.hid (HFA.out i e wr (HV.out.below HB.out) hi')
    go_wp2_with fail
    refine HF.out.mono ?_
    rintro en w1 ⟨rfl, ⟨j, a, b, rfl, hxa, hxb, hf⟩ | ⟨rfl, hf⟩⟩
    · obtain ⟨hit, hil⟩ := HI.out.hit hf (by rw [← HSL.out]; exact hi')
      have hol : out.length + b.size ≤ 8796099313665 := by
        have := hit.len
        rw [List.length_append] at this
        have := HLN.out
        have := Lib.size_eq b
        simp only at *
        omega
      have hia : i + a.size ≤ s.size := by have := Lib.size_eq a; have := HSL.out; simp only at hil; omega
      obtain ⟨G, o, rfl, hG, hca⟩ := HC.out _ a hxa
      obtain ⟨G', o', eG, _, hcb⟩ := HC.out _ b hxb
      obtain ⟨rfl, rfl⟩ : G = G' ∧ o = o' := by cases eG; exact ⟨rfl, rfl⟩
      have hjn : 2 * j + 1 < n := by have := (List.getElem?_eq_some_iff.1 hxb).1; have := HL.out; omega
      have hemp : a.size = 0 → e = true := fun h => fits_empty (firstP_fits hf) (List.eq_nil_of_length_eq_zero (by rw [← Lib.size_eq]; exact h))
      have HIT := Lib.hid hit
      have HE := Lib.hid hemp
      have d0 : wr.cell? ⟨G, o + 2 * j, none⟩ = some (.string a) := (HB.out.cell (p := ⟨G, o + 2 * j, none⟩) hG).trans hca
      have d1 : wr.cell? ⟨G, o + (2 * j + 1), none⟩ = some (.string b) := (HB.out.cell (p := ⟨G, o + (2 * j + 1), none⟩) hG).trans hcb
      have hsa := Lib.size_eq a
      have hsb := Lib.size_eq b
      have HSA := Lib.hid hsa
      have HSB := Lib.hid hsb
      generalize hm : 2 * j = m at hjn d0 d1
      clear hxa hxb hf hit hil hemp hca hcb hm hsa hsb
      have c0 : (0 : Int) ≤ (m : Int) := by omega
      have c1 : (m : Int) + 1 < (n : Int) := by omega
      have c2 : (m : Int) < (n : Int) := by omega
      by_cases ha : 1 ≤ a.size
      · have hne := neB ha
        have hne2 := neB2 ha
        have HBB : Hid ((!(a.data.toList, b.data.toList).1.isEmpty) = true) := Lib.hid (by rw [← ne_bool]; simp; omega)
        go_wp2_with (at_builtin; refine Lib.wpList_append_own_string _ rfl _ _ 41 9 rfl w.heap.size 5 i0 Try.underlying41 Try.underlying9 hi hz0 hz1 hz2 _ _ _ rfl HR.out b rfl (by unfold maxLen; omega) (by omega) HB.out.size ?_; intro v' w2 hown hgrow _; have hB2 : Below w.heap.size w w2 := HB.out.grown hgrow HB.out.size (fun k ek => (HR.out.lt k ek).1); have f0 : w2.cell? ⟨G, o + m, none⟩ = some (.string a) := (((HB.out.cell (p := ⟨G, o + m, none⟩) hG).symm.trans d0).symm ▸ (hB2.cell (p := ⟨G, o + m, none⟩) hG)); have HO := Lib.hid hown; have HB2 := Lib.hid hB2; clear hown hgrow hB2)
        go_roundw
        case rel => exact ⟨i + a.size, true, out ++ b.data.toList, by go_num, rfl, hia, by rw [List.length_append, ← HSB.out]; exact hol, Lib.hid (by have := HIT.out; rw [HBB.out] at this; rw [HSA.out]; exact this), Lib.hid (by rw [List.length_append, ← HSB.out, Lib.byteCells_append, ← Lib.strCells_eq]; exact HO.out), HB2⟩
        case measure => cases e <;> simp [RowKit.intOf, bT] <;> omega
      · have ha0 : a.size = 0 := by omega
        obtain rfl := emptyB a ha0
        have he := HE.out ha0
        subst he
        go_wp2_with (at_builtin; refine Lib.wpList_append_own_string _ rfl _ _ 41 9 rfl w.heap.size 5 i0 Try.underlying41 Try.underlying9 hi hz0 hz1 hz2 _ _ _ rfl HR.out b rfl (by unfold maxLen; omega) (by omega) HB.out.size ?_; intro v' w2 hown hgrow _; have hB2 : Below w.heap.size w w2 := HB.out.grown hgrow HB.out.size (fun k ek => (HR.out.lt k ek).1); have f0 : w2.cell? ⟨G, o + m, none⟩ = some (.string ByteArray.empty) := (((HB.out.cell (p := ⟨G, o + m, none⟩) hG).symm.trans d0).symm ▸ (hB2.cell (p := ⟨G, o + m, none⟩) hG)); have HO := Lib.hid hown; have HB2 := Lib.hid hB2; clear hown hgrow hB2)
        go_roundw
        case rel => exact ⟨i, false, out ++ b.data.toList, by first | rfl | go_num, rfl, hi', by rw [List.length_append, ← HSB.out]; omega, Lib.hid (by simpa using HIT.out), Lib.hid (by rw [List.length_append, ← HSB.out, Lib.byteCells_append, ← Lib.strCells_eq]; exact HO.out), HB2⟩
        case measure => simp [RowKit.intOf, bT]
    · by_cases hend : i = s.size
      · have HD : Hid (out = repl (prs xs) s.data.toList true) := Lib.hid (by
          subst hend
          have h1 := HI.out
          rw [HSL.out] at h1 hf
          exact h1.done hf)
        have hb : ((i : Int) == (s.size : Int)) = true := by rw [hend]; simp
        have hcv := conv_own HR.out
        clear hend hf
        go_wp2_with fail
        go_ret
        exact ⟨by rw [HD.out]; rfl, HB.out⟩
      · have hlt : i < s.size := by omega
        have hlz : (i : Int) < (s.size : Int) := by omega
        have hb : ((i : Int) == (s.size : Int)) = false := by rw [beq_eq_false_iff_ne]; omega
        have hst := HI.out.step (by rw [← HSL.out]; exact hlt) hf
        have hol : out.length + 1 ≤ 8796099313665 := by
          have := hst.len
          rw [List.length_append] at this
          have := HLN.out
          simp only [List.length_singleton] at *
          omega
        have HST : Hid (RI (prs xs) s.data.toList (out ++ [s[i]]) (i + 1) true) := Lib.hid hst
        clear hend hf hst
        go_wp2_with (at_builtin; refine wpList_append_own _ rfl _ _ 41 rfl w.heap.size 5 i0 (.int .u8 0) 1 1 Try.underlying41 hi hz0 hz1 hz2 rfl (by decide) _ _ _ rfl (HR.out.alloc _) ⟨wr.heap.size, 0, none⟩ 1 1 [.int .u8 (s[i]).toNat] rfl rfl (cell_new_at _ _ rfl _ _) (by simp [Value.oneCell']) (by unfold maxLen; omega) (by omega) (by have := HB.out.size; simp; omega) ?_; intro v' w2 hown' hgrow _; have HB2 : Hid (Below w.heap.size w w2) := Lib.hid ((HB.out.alloc HB.out.size _).grown hgrow (by have := HB.out.size; simp; omega) (fun j ej => (HR.out.lt j ej).1)); have HO := Lib.hid hown'; clear hown' hgrow)
        go_roundw
        case rel => exact ⟨i + 1, true, out ++ [s[i]], by go_num, rfl, by omega, by rw [List.length_append]; exact hol, HST, Lib.hid (by rw [List.length_append, Lib.byteCells_append]; exact HO.out), HB2⟩
        case measure => cases e <;> simp [RowKit.intOf, bT] <;> omega
end Go.Proofs.Ytnigbgablginnaa

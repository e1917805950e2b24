/- The walk of FnNothing. -/
import Derived.Test.YtnigbgablginnaaNoW
set_option linter.unusedVariables false
namespace Go.Proofs.Ytnigbgablginnaa
open Go.RowKit Go.Lib

/-- None of the first k old texts stands in the text. -/
def NoK (s : ByteArray) (ys : List ByteArray) (k : Nat) : Prop := ∀ j y, j < k → ys[j]? = some y → index s.data.toList y.data.toList = -1
theorem index_low (s p : Bs) (h : ¬ 0 ≤ index s p) : index s p = -1 := by
  rcases index_spec s p with ⟨h1, _⟩ | ⟨i, hi, _⟩
  · exact h1
  · omega
set_option maxRecDepth 100000 in
set_option maxHeartbeats 4000000 in
theorem walk_FnNothing (v : Value) (xs : List ByteArray) (s : ByteArray) (w : World) (hv : StrsAt w v xs) (hz : ∀ x ∈ xs, x.size ≤ maxLen) (hl : xs.length ≤ maxLen) (hs : s.size ≤ maxLen) :
    Calls Try.prog 14 #[v, .string s] w fun e w' => e = .returned (.bool true) ∧ Below w.heap.size w w' := by
  unfold maxLen at hz hl hs
  have HF := Lib.hid (zzFits1 xs v w hv (by omega) (fun x hx => by have := hz x hx; omega))
  have HE := Lib.hid (rpEven xs v w hv (by omega))
  have HV := Lib.hid hv
  by_cases hf : fitsB xs = true
  · rw [hf] at HF
    obtain ⟨hn, hz2⟩ := fitsB_iff.1 hf
    by_cases hbig : 2147483647 < s.size
    · clear hv hz hl hf hz2 hn
      go_enter Try.func14, Try.ntmps14
      go_wp2_with (go_at_call 18; (with_reducible refine HF.out.mono ?_); rintro e w' ⟨rfl, rfl⟩)
      go_ret
      exact ⟨rfl, Below.refl _ _⟩
    have hss : s.size ≤ 2147483647 := by omega
    by_cases he : xs.length % 2 = 0
    · have hev : evenB xs = true := by unfold evenB; rw [he]; rfl
      rw [hev] at HE
      have HO := Lib.hid (Olds xs v w hv hn)
      have hlen := oldsOf_len xs
      have HIm := Lib.hid (fun (hno : ∀ y ∈ oldsOf xs, index s.data.toList y.data.toList = -1) (W : World) (hW : StrsAt W v xs) => rpIs v s s _ W (impNo he hn hz2 v s W hW hss hno))
      have hzo : ∀ y ∈ oldsOf xs, y.size ≤ 2147483647 := fun y hy => by
        obtain ⟨q, hq, rfl⟩ := List.mem_map.1 hy
        exact hz2 _ (pairUp_mem he hq).2.1
      obtain ⟨ys, hys⟩ : ∃ ys, ys = oldsOf xs := ⟨_, rfl⟩
      unfold OldsR at HO
      rw [← hys] at HO hlen HIm hzo
      have HZ := Lib.hid hzo
      have hyn : ys.length ≤ 2147483647 := by omega
      clear hv hz hl hf hz2 hev hzo hys he hlen hbig
      go_enter Try.func14, Try.ntmps14
      go_wp2_with (first | (go_at_call 18; (with_reducible refine HF.out.mono ?_); rintro e w' ⟨rfl, rfl⟩) | (go_at_call 19; (with_reducible refine HE.out.mono ?_); rintro e w' ⟨rfl, rfl⟩))
      refine HO.out.mono ?_
      rintro e w1 ⟨u, rfl, hst, hB⟩
      obtain ⟨A, c, rfl⟩ := hst.shape
      obtain ⟨_, hc, hcells⟩ := hst.cells
      have HC := Lib.hid hcells
      have HB := Lib.hid hB
      clear hst hcells hB
      generalize hln : ys.length = n at hc hyn
      have HL := Lib.hid hln
      clear hln
      go_wp2_with fail
      go_loop [21] (fun iv => ∃ k : Nat, k ≤ n ∧ iv = .int .i64 k ∧ Hid (NoK s ys k)) (fun iv => n - (RowKit.intOf iv).toNat)
      case atStart => exact ⟨0, Nat.zero_le _, rfl, Lib.hid (fun j y h => absurd h (Nat.not_lt_zero _))⟩
      case round =>
        obtain ⟨k, hk, rfl, HK⟩ := hrel
        by_cases hlt : k < n
        · obtain ⟨x, hx⟩ : ∃ x, ys[k]? = some x := ⟨_, List.getElem?_eq_getElem (by have := HL.out; omega)⟩
          obtain ⟨G, o, rfl, hG, hcell⟩ := HC.out k x hx
          have hxz := HZ.out x (List.mem_of_getElem? hx)
          have HX := Lib.hid hx
          have hltz : (k : Int) < (n : Int) := by omega
          have HI := Lib.hid (SpIn s x w1 (by omega) (by omega))
          clear hx
          by_cases hin : 0 ≤ index s.data.toList x.data.toList
          · rw [decide_eq_true hin] at HI
            clear hin
            go_wp2_with (go_at_call 37; (with_reducible refine HI.out.mono ?_); rintro e w' ⟨rfl, rfl⟩)
            go_ret
            exact ⟨rfl, HB.out⟩
          · rw [decide_eq_false hin] at HI
            have HK2 : Hid (NoK s ys (k + 1)) := Lib.hid (fun j y hj hy => by
              rcases Nat.lt_or_eq_of_le (Nat.le_of_lt_succ hj) with h | rfl
              · exact HK.out j y h hy
              · obtain rfl := Option.some.inj (HX.out.symm.trans hy); exact index_low _ _ hin)
            clear hin
            go_wp2_with (go_at_call 37; (with_reducible refine HI.out.mono ?_); rintro e w' ⟨rfl, rfl⟩)
            go_round
            case rel => exact ⟨k + 1, by omega, by go_num, HK2⟩
            case measure => simp [RowKit.intOf]; omega
        · have hge : ¬ ((k : Int) < (n : Int)) := by omega
          have hI := HIm.out (fun y hy => by
            obtain ⟨j, hj, ej⟩ := List.getElem_of_mem hy
            exact HK.out j y (by have := HL.out; omega) (by rw [List.getElem?_eq_getElem hj, ej])) w1 (HV.out.below HB.out)
          rw [beq_self_eq_true] at hI
          have HI2 := Lib.hid hI
          clear hI
          go_wp2_with (go_at_call 23; (with_reducible refine HI2.out.mono ?_); rintro e w2 ⟨rfl, hB⟩; have HB2 := Lib.hid (HB.out.trans (hB.mono HB.out.size)); clear hB HI2)
          go_ret
          exact ⟨rfl, HB2.out⟩
    · have hev : evenB xs = false := by unfold evenB; rw [decide_eq_false_iff_not]; exact he
      rw [hev] at HE
      clear hv hz hl hf hz2 hev he hn hbig
      go_enter Try.func14, Try.ntmps14
      go_wp2_with (first | (go_at_call 18; (with_reducible refine HF.out.mono ?_); rintro e w' ⟨rfl, rfl⟩) | (go_at_call 19; (with_reducible refine HE.out.mono ?_); rintro e w' ⟨rfl, rfl⟩))
      go_ret
      exact ⟨rfl, Below.refl _ _⟩
  · have hf' : fitsB xs = false := by simpa using hf
    rw [hf'] at HF
    clear hv hz hl hf hf'
    go_enter Try.func14, Try.ntmps14
    go_wp2_with (go_at_call 18; (with_reducible refine HF.out.mono ?_); rintro e w' ⟨rfl, rfl⟩)
    go_ret
    exact ⟨rfl, Below.refl _ _⟩
end Go.Proofs.Ytnigbgablginnaa

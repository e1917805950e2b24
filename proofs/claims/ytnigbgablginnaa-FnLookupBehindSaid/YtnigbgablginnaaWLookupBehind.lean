/- FnLookupBehind: the walk. -/
import Derived.Test.YtnigbgablginnaaLkZ
set_option linter.unusedVariables false
namespace Go.Proofs.Ytnigbgablginnaa
open Go.RowKit Go.Lib

set_option maxRecDepth 100000 in
set_option maxHeartbeats 4000000 in
theorem walk_FnLookupBehind (v : Value) (xs : List ByteArray) (i : Int) (s : ByteArray) (w : World) (hv : StrsAt w v xs) (hz : ∀ x ∈ xs, x.size ≤ maxLen) (hl : xs.length ≤ maxLen) (_hi : (Lit.int .i64 i).wf = true) (_hs : s.size ≤ maxLen) :
    Calls Try.prog 7 #[v, .int .i64 i, .string s] w fun e w' => e = .returned (.bool true) ∧ Below w.heap.size w w' := by
  unfold maxLen at hz hl _hs
  have HV := Lib.hid hv
  have HZ := Lib.hid hz
  clear hz _hi
  have hF := zzFits1 xs v w hv hl HZ.out
  have HE := Lib.hid (rpEven xs v w hv hl)
  by_cases hfit : fitsB xs = true
  · rw [hfit] at hF
    have HFi := Lib.hid hF
    have hx := (fitsB_iff.1 hfit).1
    have HX := Lib.hid (fitsB_iff.1 hfit).2
    clear hF hfit
    by_cases hs : s.size ≤ 2147483647
    · by_cases he : xs.length % 2 = 0
      · have HEv : Hid (evenB xs = true) := Lib.hid (by unfold evenB; rw [he]; rfl)
        rw [HEv.out] at HE
        have HSo := Lib.hid (Solid xs v w hv hx)
        cases xs with
        | nil =>
          obtain ⟨A, c, rfl⟩ := hv.shape
          clear hv
          generalize hn : ([] : List ByteArray).length = n at *
          have hnz : ((n : Int) == 0) = true := by rw [← hn]; rfl
          have HN := Lib.hid hn
          clear hn
          go_enter Try.func7, Try.ntmps7
          go_wp2_with (first | (go_at_call 18; (with_reducible refine HFi.out.mono ?_); rintro e w' ⟨rfl, rfl⟩) | (go_at_call 19; (with_reducible refine HE.out.mono ?_); rintro e w' ⟨rfl, rfl⟩))
          go_ret
          exact ⟨rfl, Below.refl _ _⟩
        | cons x0 r =>
          cases r with
          | nil => simp at he
          | cons x1 r =>
            obtain ⟨A, c, rfl⟩ := hv.shape
            obtain ⟨_, hc, hcells⟩ := hv.cells
            obtain ⟨G, o, rfl, hG, hc0⟩ := hcells 0 x0 rfl
            obtain ⟨G', o', eG, hG', hc1⟩ := hcells 1 x1 rfl
            obtain ⟨rfl, rfl⟩ : G = G' ∧ o = o' := by cases eG; exact ⟨rfl, rfl⟩
            have hx0 := HX.out x0 (by simp)
            rw [Nat.add_zero] at hc0
            have hfp : firstP (prs (x0 :: x1 :: r)) (x0 ++ s).data.toList true = some (tb (x0, x1)) := by
              show firstP ((x0.data.toList, x1.data.toList) :: pairUp (r.map (·.data.toList))) _ _ = _
              unfold firstP
              rw [List.find?_cons]
              have : fits true (x0 ++ s).data.toList (x0.data.toList, x1.data.toList) = true := by
                unfold fits
                rw [Bool.true_or, Bool.true_and, List.isPrefixOf_iff_prefix]
                exact ⟨s.data.toList, by rw [ByteArray.data_append, Array.toList_append]⟩
              rw [this]; rfl
            have HLk := fun W (hW : StrsAt W (.slice (some ⟨G, o, none⟩) (x0 :: x1 :: r).length c) (x0 :: x1 :: r)) => Lookup_some (x0 :: x1 :: r) _ (x0 ++ s) W (x0, x1) he hW hx (fun x hxm => by have := HX.out x hxm; omega) (by rw [ByteArray.size_append]; omega) hfp
            have HLK := Lib.hid HLk
            have HE' := HE
            have hn2 : 2 ≤ (x0 :: x1 :: r).length := by simp
            clear hv hcells eG HLk hfp hG'
            generalize hn : (x0 :: x1 :: r).length = n at *
            have HN := Lib.hid hn
            by_cases hsol : solidB (oldsOf (x0 :: x1 :: r)) = true
            · rw [hsol] at HSo
              clear hn hsol
              have hnz : ((n : Int) == 0) = false := beq_eq_false_iff_ne.2 (by omega)
              have n0 : (0 : Int) < (n : Int) := by omega
              have n1 : (1 : Int) < (n : Int) := by omega
              go_enter Try.func7, Try.ntmps7
              go_wp2_with (first | (go_at_call 18; (with_reducible refine HFi.out.mono ?_); rintro e w' ⟨rfl, rfl⟩) | (go_at_call 19; (with_reducible refine HE.out.mono ?_); rintro e w' ⟨rfl, rfl⟩) | (go_at_call 20; (with_reducible refine HSo.out.mono ?_); rintro e w1 ⟨rfl, hB1⟩; have HB1 := Lib.hid hB1; have k0 := (hB1.cell (p := ⟨G, o, none⟩) hG).trans hc0; have k1 := (hB1.cell (p := ⟨G, o + 1, none⟩) hG).trans hc1; clear hB1))
              have hsum : x0.size + s.size ≤ 4294967296 := by omega
              refine (HLK.out _ (HV.out.below HB1.out)).mono ?_
              rintro e w2 ⟨rfl, hB2⟩
              have HB2 := Lib.hid (HB1.out.trans (hB2.mono HB1.out.size))
              have j1 := (hB2.cell (p := ⟨G, o + 1, none⟩) (Nat.lt_of_lt_of_le hG HB1.out.size)).trans k1
              clear hB2
              go_wp2_with fail
              go_ret
              exact ⟨rfl, HB2.out⟩
            · have hsf : solidB (oldsOf (x0 :: x1 :: r)) = false := by simpa using hsol
              rw [hsf] at HSo
              clear hn hsol hsf
              have hnz : ((n : Int) == 0) = false := beq_eq_false_iff_ne.2 (by omega)
              go_enter Try.func7, Try.ntmps7
              go_wp2_with (first | (go_at_call 18; (with_reducible refine HFi.out.mono ?_); rintro e w' ⟨rfl, rfl⟩) | (go_at_call 19; (with_reducible refine HE.out.mono ?_); rintro e w' ⟨rfl, rfl⟩) | (go_at_call 20; (with_reducible refine HSo.out.mono ?_); rintro e w1 ⟨rfl, hB1⟩; have HB1 := Lib.hid hB1; clear hB1))
              go_ret
              exact ⟨rfl, HB1.out⟩
      · have HEv : Hid (evenB xs = false) := Lib.hid (by unfold evenB; rw [decide_eq_false he])
        rw [HEv.out] at HE
        obtain ⟨A, c, rfl⟩ := hv.shape
        clear hv
        go_enter Try.func7, Try.ntmps7
        go_wp2_with (first | (go_at_call 18; (with_reducible refine HFi.out.mono ?_); rintro e w' ⟨rfl, rfl⟩) | (go_at_call 19; (with_reducible refine HE.out.mono ?_); rintro e w' ⟨rfl, rfl⟩))
        go_ret
        exact ⟨rfl, Below.refl _ _⟩
    · obtain ⟨A, c, rfl⟩ := hv.shape
      clear hv
      go_enter Try.func7, Try.ntmps7
      go_wp2_with (go_at_call 18; (with_reducible refine HFi.out.mono ?_); rintro e w' ⟨rfl, rfl⟩)
      go_ret
      exact ⟨rfl, Below.refl _ _⟩
  · have hff : fitsB xs = false := by simpa using hfit
    rw [hff] at hF
    have HFi := Lib.hid hF
    clear hF hfit hff
    obtain ⟨A, c, rfl⟩ := hv.shape
    clear hv
    go_enter Try.func7, Try.ntmps7
    go_wp2_with (go_at_call 18; (with_reducible refine HFi.out.mono ?_); rintro e w' ⟨rfl, rfl⟩)
    go_ret
    exact ⟨rfl, Below.refl _ _⟩
end Go.Proofs.Ytnigbgablginnaa

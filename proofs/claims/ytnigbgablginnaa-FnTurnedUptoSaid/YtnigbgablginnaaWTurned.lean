/- The walk of FnTurned. -/
import Derived.Test.YtnigbgablginnaaApartW
import Derived.Test.YtnigbgablginnaaTurnW
import Derived.OpenShut
set_option linter.unusedVariables false
namespace Go.Proofs.Ytnigbgablginnaa
open Go.RowKit Go.Lib

set_option maxRecDepth 100000 in
set_option maxHeartbeats 4000000 in
theorem walk_FnTurned (v : Value) (xs : List ByteArray) (i : Int) (s : ByteArray) (w : World) (hv : StrsAt w v xs) (hz : ∀ x ∈ xs, x.size ≤ maxLen) (hl : xs.length ≤ maxLen) (hi : (Lit.int .i64 i).wf = true) (_hs : s.size ≤ maxLen) (hb : bulkS xs + s.size ≤ 1048576) :
    Calls Try.prog 3 #[v, .int .i64 i, .string s] w fun e w' => e = .returned (.bool true) ∧ Below w.heap.size w w' := by
  obtain ⟨hi0, hi1⟩ := bounds_i64 hi
  have HFi := Lib.hid (front hv hl (by omega))
  have hss : s.size ≤ 1048576 := by omega
  have HV := Lib.hid hv
  by_cases he : xs.length % 2 = 0
  · have HE := Lib.hid (front_even hv hl true (by simp [he]))
    have hfew := front_few he (by omega : bulkS xs ≤ 1048576)
    have hn : xs.length ≤ 2147483647 := hfew.2.1
    have HSo := Lib.hid (Solid xs v w hv hn)
    by_cases hso : solidB (oldsOf xs) = true
    · rw [hso] at HSo
      have HAp := Lib.hid (fun (W : World) (hW : StrsAt W v xs) => Apart xs v W hW hn (fun x hx => by have := hfew.2.2 x (oldsOf_mem hx); omega))
      have HTu := Lib.hid (fun (W : World) (hW : StrsAt W v xs) => Turned xs v i W hW he hn (by omega) (by omega))
      obtain ⟨Y, hY⟩ : ∃ Y, Y = repl (prs xs) s.data.toList true := ⟨_, rfl⟩
      have HTx := Lib.hid (fun (W : World) (hW : StrsAt W v xs) => rpTextA hfew v s W hW (by omega))
      have HIs := Lib.hid (fun (hap : ApartK (oldsOf xs)) (m : Nat) (hm : 2 * m ≤ xs.length) (u : Value) (W : World) (hW : StrsAt W u (turned xs m)) => rpIsA (few_turned hfew m hm) u s ⟨Y.toArray⟩ W hW (by omega) (by rw [repl_turned he hap m]; exact hY.symm))
      rw [← hY] at HTx
      clear hv hz hl _hs hb he hfew hY hso
      go_enter Try.func3, Try.ntmps3
      go_wp2_with (first | (go_at_call 18; (with_reducible refine HFi.out.mono ?_); rintro e w' ⟨rfl, rfl⟩) | (go_at_call 19; (with_reducible refine HE.out.mono ?_); rintro e w' ⟨rfl, rfl⟩) | (go_at_call 20; (with_reducible refine HSo.out.mono ?_); rintro e w1 ⟨rfl, hB⟩; have HB1 := Lib.hid hB; clear hB))
      refine (HAp.out w1 (HV.out.below HB1.out)).mono ?_
      rintro e w2 ⟨b, rfl, hap, hB⟩
      have HB2 := Lib.hid (HB1.out.trans (hB.mono HB1.out.size))
      clear hB
      cases b with
      | false =>
        clear hap
        go_wp2_with fail
        go_ret
        exact ⟨rfl, HB2.out⟩
      | true =>
        have HK := Lib.hid (hap rfl)
        clear hap
        go_wp2_with (first | (go_at_call 22; (with_reducible refine (rpReplaces _).mono ?_); rintro e w3 ⟨rfl, hB⟩; have HB3 := Lib.hid (HB2.out.trans (hB.mono HB2.out.size)); have HC1 := Lib.hid (HTu.out w3 (HV.out.below HB3.out)); clear hB) | (go_at_call 24; (with_reducible refine HC1.out.mono ?_); rintro e w4 ⟨u, m, rfl, hm, hst, hB⟩; have HB4 := Lib.hid (HB3.out.trans (hB.mono HB3.out.size)); have HST := Lib.hid hst; have HC2 := Lib.hid (HTx.out w4 (HV.out.below HB4.out)); clear hB hst HC1) | (go_at_call 25; (with_reducible refine HC2.out.mono ?_); rintro e w5 ⟨rfl, hB⟩; have HB5 := Lib.hid (HB4.out.trans (hB.mono HB4.out.size)); have HC3 := Lib.hid (HIs.out HK.out m hm u w5 (HST.out.below hB)); clear hB HC2) | (go_at_call 23; (with_reducible refine HC3.out.mono ?_); rintro e w6 ⟨rfl, hB⟩; have HB6 := Lib.hid (HB5.out.trans (hB.mono HB5.out.size)); clear hB HC3))
        go_ret
        exact ⟨rfl, HB6.out⟩
    · rw [Bool.not_eq_true] at hso
      rw [hso] at HSo
      clear hv hz hl _hs hb he hfew hso
      go_enter Try.func3, Try.ntmps3
      go_wp2_with (first | (go_at_call 18; (with_reducible refine HFi.out.mono ?_); rintro e w' ⟨rfl, rfl⟩) | (go_at_call 19; (with_reducible refine HE.out.mono ?_); rintro e w' ⟨rfl, rfl⟩) | (go_at_call 20; (with_reducible refine HSo.out.mono ?_); rintro e w1 ⟨rfl, hB⟩; have HB1 := Lib.hid hB; clear hB))
      go_ret
      exact ⟨rfl, HB1.out⟩
  · have HE := Lib.hid (front_even hv hl false (by simp [he]))
    clear hv hz hl _hs hb he
    go_enter Try.func3, Try.ntmps3
    go_wp2_with (first | (go_at_call 18; (with_reducible refine HFi.out.mono ?_); rintro e w' ⟨rfl, rfl⟩) | (go_at_call 19; (with_reducible refine HE.out.mono ?_); rintro e w' ⟨rfl, rfl⟩))
    go_ret
    exact ⟨rfl, Below.refl _ _⟩
end Go.Proofs.Ytnigbgablginnaa

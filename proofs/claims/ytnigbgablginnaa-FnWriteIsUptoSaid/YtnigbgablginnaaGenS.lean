/- impl.Generic: what a generic replacer makes. -/
import Derived.Test.YtnigbgablginnaaAnyR
set_option linter.unusedVariables false
namespace Go.Proofs.Ytnigbgablginnaa
open Go.RowKit Go.Lib

set_option maxRecDepth 100000 in
set_option maxHeartbeats 1000000 in
theorem impGeneric {xs : List ByteArray} (h : Few xs) (v : Value) (s : ByteArray) (w : World) (hv : StrsAt w v xs) (hs : s.size ≤ 2097152) :
    Calls Try.prog 26 #[v, .string s] w (TextR (repl (prs xs) s.data.toList true) w) := by
  have hl := few_len h s.data.toList (by rw [← Lib.size_eq]; exact hs)
  obtain ⟨he, hx, hz⟩ := h
  rw [← prs_up] at hl ⊢
  have HV := Lib.hid hv
  have HP := Lib.hid (pairsOf_up xs he)
  have HZ : Hid (∀ x ∈ xs, x.size ≤ 140737488355328) := Lib.hid (fun x hx' => by have := hz x hx'; omega)
  have HL := Lib.hid (Nat.le_trans hl (by decide : 4194305 * 2097153 ≤ 140737488355328))
  clear hv hz hl he
  have H1 : Hid (Calls Try.prog 40 #[v, .string s] w (TextR (repl ((pairUp xs).map tb) s.data.toList true) w)) := Lib.hid (by
    go_enter Try.func40, Try.ntmps40
    go_wp2_with fail
    refine (makeGeneric xs (pairUp xs) v w HP.out HV.out hx HZ.out).mono ?_
    rintro e w1 ⟨g, m, N, T, rfl, hG, hB⟩
    have HG := Lib.hid hG
    have HB := Lib.hid hB
    clear hG hB
    go_wp2_with fail
    refine (genRep g w.heap.size xs.length N (pairUp xs) m T s w1 HG.out (by have := HP.out.1; omega) (by omega) HL.out).mono ?_
    rintro e w2 ⟨rfl, hB2⟩
    have HB2 := Lib.hid (HB.out.trans (hB2.mono HB.out.size))
    clear hB2
    go_wp2_with fail
    go_ret
    exact ⟨rfl, HB2.out⟩)
  go_enter Try.func26, Try.ntmps26
  go_wp2_with fail
  refine H1.out.mono ?_
  rintro e w1 ⟨rfl, hB⟩
  have HB := Lib.hid hB
  clear hB
  go_wp2_with fail
  go_ret
  exact ⟨rfl, HB.out⟩
/-- What all these laws look at first. -/
theorem front {xs : List ByteArray} {v : Value} {w : World} (hv : StrsAt w v xs) (hl : xs.length ≤ maxLen) (hb : bulkS xs ≤ 1048576) :
    Calls Try.prog 18 #[v] w fun e w' => e = .returned (.bool true) ∧ w = w' := by
  have hx1 := bulkS_len xs
  have hx2 : ∀ x ∈ xs, x.size ≤ 1048576 := fun x hx => by have := bulkS_mem hx; omega
  have hfit : fitsB xs = true := fitsB_iff.2 ⟨by omega, fun x hx => by have := hx2 x hx; omega⟩
  have hF := zzFits1 xs v w hv hl (fun x hx => by have := hx2 x hx; omega)
  rw [hfit] at hF
  exact hF
theorem front_few {xs : List ByteArray} (he : xs.length % 2 = 0) (hb : bulkS xs ≤ 1048576) : Few xs := by
  have hx1 := bulkS_len xs
  exact ⟨he, by omega, fun x hx => by have := bulkS_mem hx; omega⟩
theorem front_even {xs : List ByteArray} {v : Value} {w : World} (hv : StrsAt w v xs) (hl : xs.length ≤ maxLen) (b : Bool) (hb : b = decide (xs.length % 2 = 0)) :
    Calls Try.prog 19 #[v] w fun e w' => e = .returned (.bool b) ∧ w = w' := by
  subst hb
  exact rpEven xs v w hv hl
end Go.Proofs.Ytnigbgablginnaa

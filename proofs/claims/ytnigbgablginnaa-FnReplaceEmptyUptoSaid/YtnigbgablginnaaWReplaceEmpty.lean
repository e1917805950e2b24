/- The walk of FnReplaceEmpty. -/
import Derived.Test.YtnigbgablginnaaSRepd
set_option linter.unusedVariables false
namespace Go.Proofs.Ytnigbgablginnaa
open Go.RowKit Go.Lib

set_option maxRecDepth 100000 in
set_option maxHeartbeats 4000000 in
theorem walk_FnReplaceEmpty (v : Value) (xs : List ByteArray) (s : ByteArray) (w : World) (hv : StrsAt w v xs) (hz : ∀ x ∈ xs, x.size ≤ maxLen) (hl : xs.length ≤ maxLen) (_hs : s.size ≤ maxLen) (hb : bulkS xs + s.size ≤ 1048576) :
    Calls Try.prog 16 #[v, .string s] w fun e w' => e = .returned (.bool true) ∧ Below w.heap.size w w' := by
  have HFi := Lib.hid (front hv hl (by omega))
  have hss : s.size ≤ 1048576 := by omega
  have HV := Lib.hid hv
  by_cases he : xs.length % 2 = 0
  · have HE := Lib.hid (front_even hv hl true (by simp [he]))
    have hfew := front_few he (by omega : bulkS xs ≤ 1048576)
    obtain ⟨out, ho⟩ : ∃ out, out = repl (prs xs) s.data.toList true := ⟨_, rfl⟩
    have HRp := Lib.hid (Replaced hfew v s w hv (by omega))
    have HI := Lib.hid (fun W hW => rpIsA hfew v s ⟨out.toArray⟩ W hW (by omega) ho.symm)
    rw [← ho] at HRp
    clear hv hz hl _hs hb he hfew ho
    go_enter Try.func16, Try.ntmps16
    go_wp2_with (first | (go_at_call 18; (with_reducible refine HFi.out.mono ?_); rintro e w' ⟨rfl, rfl⟩) | (go_at_call 19; (with_reducible refine HE.out.mono ?_); rintro e w' ⟨rfl, rfl⟩) | (go_at_call 33; (with_reducible refine HRp.out.mono ?_); rintro e w3 ⟨rfl, hB⟩; have HB3 := Lib.hid hB; have HC2 := Lib.hid (HI.out w3 (HV.out.below hB)); clear hB) | (go_at_call 23; (with_reducible refine HC2.out.mono ?_); rintro e w5 ⟨rfl, hB⟩; have HB5 := Lib.hid (HB3.out.trans (hB.mono HB3.out.size)); clear hB HC2))
    go_ret
    exact ⟨rfl, HB5.out⟩
  · have HE := Lib.hid (front_even hv hl false (by simp [he]))
    clear hv hz hl _hs hb he
    go_enter Try.func16, Try.ntmps16
    go_wp2_with (first | (go_at_call 18; (with_reducible refine HFi.out.mono ?_); rintro e w' ⟨rfl, rfl⟩) | (go_at_call 19; (with_reducible refine HE.out.mono ?_); rintro e w' ⟨rfl, rfl⟩))
    go_ret
    exact ⟨rfl, Below.refl _ _⟩
end Go.Proofs.Ytnigbgablginnaa

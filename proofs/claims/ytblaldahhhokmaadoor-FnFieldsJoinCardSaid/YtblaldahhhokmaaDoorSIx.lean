/- strings.Index and the thin package's call of it. -/
import Derived.Test.YtblaldahhhokmaaDoorIdx
namespace Go.Proofs.YtblaldahhhokmaaDoor
open Go.RowKit Go.Lib

set_option maxHeartbeats 400000 in
theorem gIndex (s sep : ByteArray) (w : World) (hs : s.size < 4294967281) :
    Calls Tryd.prog 75 #[.string s, .string sep] w fun e w' => e = .returned (.int .i64 (Lib.index s.data.toList sep.data.toList)) ∧ w = w' := by
  go_enter Tryd.func75, Tryd.ntmps75
  go_wp2_with fail
  refine (Index s sep _ hs).mono ?_
  rintro e w' ⟨rfl, rfl⟩
  go_wp2
  go_ret
  exact ⟨rfl, rfl⟩

end Go.Proofs.YtblaldahhhokmaaDoor

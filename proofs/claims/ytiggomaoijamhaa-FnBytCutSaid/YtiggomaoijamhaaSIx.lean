/- strings.Index and the thin package's call of it. -/
import Derived.Test.YtiggomaoijamhaaIdx
namespace Go.Proofs.Ytiggomaoijamhaa
open Go.RowKit Go.Lib

set_option maxHeartbeats 400000 in
theorem gIndex (s sep : ByteArray) (w : World) (hs : s.size < 4294967281) :
    Calls Try.prog 26 #[.string s, .string sep] w fun e w' => e = .returned (.int .i64 (Lib.index s.data.toList sep.data.toList)) ∧ w = w' := by
  go_enter Try.func26, Try.ntmps26
  go_wp2_with fail
  refine (Index s sep _ hs).mono ?_
  rintro e w' ⟨rfl, rfl⟩
  go_wp2
  go_ret
  exact ⟨rfl, rfl⟩

set_option maxHeartbeats 400000 in
theorem StrIndex (s sep : ByteArray) (w : World) (hs : s.size < 4294967281) :
    Calls Try.prog 13 #[.string s, .string sep] w fun e w' => e = .returned (.int .i64 (Lib.index s.data.toList sep.data.toList)) ∧ w = w' := by
  go_enter Try.func13, Try.ntmps13
  go_wp2_with fail
  refine (gIndex s sep _ hs).mono ?_
  rintro e w' ⟨rfl, rfl⟩
  go_wp2
  go_ret
  exact ⟨rfl, rfl⟩
end Go.Proofs.Ytiggomaoijamhaa

/- strings.Index and the thin package's call of it. -/
import Derived.Test.YtggjdibahpnclaaIdx
namespace Go.Proofs.Ytggjdibahpnclaa
open Go.RowKit Go.Lib

set_option maxHeartbeats 400000 in
theorem gIndex (s sep : ByteArray) (w : World) (hs : s.size < 4294967281) :
    Calls Try.prog 57 #[.string s, .string sep] w fun e w' => e = .returned (.int .i64 (Lib.index s.data.toList sep.data.toList)) ∧ w = w' := by
  go_enter Try.func57, Try.ntmps57
  go_wp2_with fail
  refine (Index s sep _ hs).mono ?_
  rintro e w' ⟨rfl, rfl⟩
  go_wp2
  go_ret
  exact ⟨rfl, rfl⟩

set_option maxHeartbeats 400000 in
theorem StrIndex (s sep : ByteArray) (w : World) (hs : s.size < 4294967281) :
    Calls Try.prog 37 #[.string s, .string sep] w fun e w' => e = .returned (.int .i64 (Lib.index s.data.toList sep.data.toList)) ∧ w = w' := by
  go_enter Try.func37, Try.ntmps37
  go_wp2_with fail
  refine (gIndex s sep _ hs).mono ?_
  rintro e w' ⟨rfl, rfl⟩
  go_wp2
  go_ret
  exact ⟨rfl, rfl⟩
end Go.Proofs.Ytggjdibahpnclaa

/- The walk of FnStrIndexByte. -/
import Derived.Test.YtpaieadnicmplaaDoorBas
import Derived.Deep.RegionWith
namespace Go.Proofs.YtpaieadnicmplaaDoor
open Go.RowKit Go.Lib

theorem wf_u8 {c : Int} (h : (Lit.int .u8 c).wf = true) : 0 ≤ c ∧ c ≤ 255 := bounds_u8 h

theorem one_byte (W : World) (c : Int) :
    (convert 23 9 (.slice (some ⟨W.heap.size, 0, none⟩) 1 1)).run Tryd.prog (W.alloc (.cells #[.int .u8 c] 5)).drew = .ok (.string ⟨#[UInt8.ofNat c.toNat]⟩) (W.alloc (.cells #[.int .u8 c] 5)).drew := by
  rw [run_convert_bytes_arg _ 23 5 Tryd.underlying23 Tryd.underlying5 W.heap.size 0 1 1 [c] rfl (fun i hi => by
    obtain rfl : i = 0 := by omega
    simp) 9 Tryd.underlying9]
  rfl

end Go.Proofs.YtpaieadnicmplaaDoor

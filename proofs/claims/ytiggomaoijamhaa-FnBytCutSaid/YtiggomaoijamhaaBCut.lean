/- gobytes.Cut over slices. -/
import Derived.Test.YtiggomaoijamhaaBLast
import Derived.Test.YtiggomaoijamhaaCut
namespace Go.Proofs.Ytiggomaoijamhaa
open Go.RowKit Go.Lib

set_option maxHeartbeats 1000000 in
theorem gbCut_no (b1 o1 c1 b2 o2 c2 : Nat) (s sep : ByteArray) (w : World) (hs : s.size < 4294967281)
    (hc1 : Hid (Lib.Bytes w b1 o1 s)) (hc2 : Hid (Lib.Bytes w b2 o2 sep)) (hcap : s.size ≤ c1) (h : index s.data.toList sep.data.toList = -1) :
    Calls Try.prog 30 #[.slice (some ⟨b1, o1, none⟩) s.size c1, .slice (some ⟨b2, o2, none⟩) sep.size c2] w fun e w' => e = .returned (.tuple #[.slice (some ⟨b1, o1, none⟩) s.size c1, .slice none 0 0, .bool false]) ∧ ∃ q, w' = w.drewN q := by
  have H := Lib.hid h
  clear h
  go_enter Try.func30, Try.ntmps30
  go_wp2_with fail
  refine (gbIndex b1 o1 c1 b2 o2 c2 s sep _ hs hc1 hc2 hcap).mono ?_
  rintro e w' ⟨rfl, q, rfl⟩
  rw [H.out]
  go_wp2
  go_ret3
  exact ⟨rfl, q, rfl⟩

/-- 's[l:]' at the capacity's end too: some address from which the tail reads. -/
theorem tail_slice (b1 o1 c1 l : Nat) (s : ByteArray) (w : World) (hc1 : Lib.Bytes w b1 o1 s) (hl : l ≤ s.size) (hcap : s.size ≤ c1) :
    ∃ A c, (∀ W, (Instr.slice 23 (.slice (some ⟨b1, o1, none⟩) s.size c1) (some (.int .i64 (l : Int))) none none).run Try.prog W = .ok (.slice (some ⟨b1, A, none⟩) (s.size - l) c) W) ∧ Lib.Bytes w b1 A (s.extract l s.size) := by
  have z5 : ∀ w, (Go.sizeOf 5).run Try.prog w = .ok 1 w := fun w => by kernel_rfl
  by_cases h : l < c1
  · exact ⟨o1 + l, c1 - l, fun W => run_slice_tail W _ _ Try.underlying23 z5 b1 o1 s.size c1 l hl h, hc1.window l s.size hl (Nat.le_refl _)⟩
  · obtain rfl : c1 = l := by omega
    refine ⟨o1, 0, fun W => ?_, ?_⟩
    · have ht' : Try.prog.underlying 23 = some (.slice (Try.prog.elem 23)) := by simp [Program.elem, Try.underlying23]
      have he : Try.prog.elem 23 = 5 := by simp [Program.elem, Try.underlying23]
      rw [run_slice_l W _ _ _ _ ht' .i64 _ (by omega) (by omega), he, z5]
      simp [Result.andThen, sliced]
    · intro i hi
      rw [ByteArray.size_extract] at hi
      omega

set_option maxHeartbeats 1000000 in
theorem gbCut_yes (b1 o1 c1 b2 o2 c2 k : Nat) (s sep : ByteArray) (w : World) (hs : s.size < 4294967281)
    (hc1 : Hid (Lib.Bytes w b1 o1 s)) (hc2 : Hid (Lib.Bytes w b2 o2 sep)) (hcap : s.size ≤ c1) (h : index s.data.toList sep.data.toList = k) (hk : k + sep.size ≤ s.size) :
    Calls Try.prog 30 #[.slice (some ⟨b1, o1, none⟩) s.size c1, .slice (some ⟨b2, o2, none⟩) sep.size c2] w fun e w' => ∃ A c, e = .returned (.tuple #[.slice (some ⟨b1, o1, none⟩) k c1, .slice (some ⟨b1, A, none⟩) (s.size - (k + sep.size)) c, .bool true]) ∧ Lib.Bytes w b1 A (s.extract (k + sep.size) s.size) ∧ ∃ q, w' = w.drewN q := by
  obtain ⟨A, c, hsl, hA⟩ := tail_slice b1 o1 c1 (k + sep.size) s w hc1.out hk hcap
  have HA := Lib.hid hA
  have H := Lib.hid h
  rw [show ((k + sep.size : Nat) : Int) = (k : Int) + sep.size by omega] at hsl
  have q1 : IntKind.i64.wrap ((k : Int) + sep.size) = (k : Int) + sep.size := by rw [IntKind.wrap_i64]; omega
  have q5 : (k : Int) ≤ c1 := by omega
  have q6 : k ≤ c1 := by omega
  clear h hA
  go_enter Try.func30, Try.ntmps30
  go_wp2_with fail
  refine (gbIndex b1 o1 c1 b2 o2 c2 s sep _ hs hc1 hc2 hcap).mono ?_
  rintro e w' ⟨rfl, q, rfl⟩
  rw [H.out]
  go_wp2_with fail
  go_quiet (fail)
  go_wp2
  go_ret3
  exact ⟨A, c, rfl, HA.out, _, World.drewN_drewN _ _ _⟩
end Go.Proofs.Ytiggomaoijamhaa

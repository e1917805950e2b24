/- impl.BytTrimSpace. -/
import Derived.Test.YtpaieadnicmplaaDoorBSpc
set_option linter.unusedVariables false
namespace Go.Proofs.YtpaieadnicmplaaDoor
open Go.Shelf Go.RowKit Go.Lib

set_option maxHeartbeats 1000000 in
theorem CloneB_nil (w : World) :
    Calls Tryd.prog 22 #[.slice none 0 0] w fun e w' => e = .returned (.slice none 0 0) ∧ w' = w := by
  have q : ∀ (w : World) (a : Option Addr) (n c n' c' : Nat), (binOp .eql 23 (.slice a n c) (.slice none n' c')).run Tryd.prog w = .ok (.bool a.isNone) w := fun w a n c n' c' => Lib.run_eql_slice_nil w _ _ a n c n' c' Tryd.underlying23
  go_enter Tryd.func22, Tryd.ntmps22
  go_wp2
  go_ret
  exact ⟨rfl, rfl⟩

/-- A slice value that '[]byte' to string turns into t, in this world and all that lie behind it. -/
def TxB (t : ByteArray) (w : World) (e : Ending) (w' : World) : Prop := ∃ v, e = .returned v ∧ Below w.heap.size w w' ∧ ((v = .slice none 0 0 ∧ t.size = 0) ∨ ∃ g c, v = .slice (some ⟨g, 0, none⟩) t.size c ∧ g < w'.heap.size ∧ Lib.Bytes w' g 0 t)

set_option maxHeartbeats 1000000 in
theorem bytTrimSpace (s : ByteArray) (g c1 : Nat) (w : World) (hB : Lib.Bytes w g 0 s) (hs : s.size < 2147483648) (hS : Spaces w) (hU : Tabs w) :
    Calls Tryd.prog 15 #[.slice (some ⟨g, 0, none⟩) s.size c1] w (TxB (trB s) w) := by
  have HC := Lib.hid (CloneB s g 0 c1 w (by omega) (Lib.hid hB))
  have HS := Lib.hid hS
  have HU := Lib.hid hU
  have hts : (trB s).size ≤ s.size := by
    have h := trB_front s 0 (Nat.zero_le _) (fun j b hj => absurd hj (Nat.not_lt_zero _))
    rw [ByteArray.extract_zero_size] at h
    rw [← h]
    unfold Lib.goTrim Lib.goTrimRight
    rw [ByteArray.size_extract]
    have h1 := rightEnd_le (Lib.goTrimLeft s)
    have h2 : (Lib.goTrimLeft s).size ≤ s.size := by
      unfold Lib.goTrimLeft
      split
      · exact Nat.zero_le _
      · rw [ByteArray.size_extract]; omega
    omega
  generalize htr : trB s = t at hts
  have HTr := Lib.hid htr
  clear hB hS hU htr
  go_enter Tryd.func15, Tryd.ntmps15
  go_wp2_with fail
  refine HC.out.mono ?_
  rintro e w1 ⟨b1, k1, rfl, hb1, hlt1, hk1, hBy1, hB1⟩
  have HBy1 := Lib.hid hBy1
  have HB1 := Lib.hid hB1
  clear hBy1 hB1
  go_wp2_with fail
  refine (gbTrimSpace s b1 k1 w1 HBy1.out hlt1 hk1 (by omega) (HS.out.below HB1.out).2 (HU.out.below HB1.out) (HS.out.below HB1.out).1).mono ?_
  rintro e w2 ⟨v, rfl, hv, hB2⟩
  rw [HTr.out] at hv
  have HB2 := bl3 HB1 hB2
  rcases hv with ⟨rfl, h0⟩ | ⟨f, cp, rfl, hcp, hBf⟩
  · clear hB2
    go_wp2_with fail
    refine (CloneB_nil _).mono ?_
    rintro e w3 ⟨rfl, rfl⟩
    go_wp2_with fail
    go_ret
    exact ⟨_, rfl, HB2.out, .inl ⟨rfl, h0⟩⟩
  · have HBf := Lib.hid hBf
    clear hB2 hBf
    go_wp2_with fail
    refine (CloneB t b1 f cp _ (by omega) HBf).mono ?_
    rintro e w3 ⟨b3, k3, rfl, hb3, hlt3, hk3, hBy3, hB3⟩
    have HBy3 := Lib.hid hBy3
    have HB3 := bl3 HB2 hB3
    clear hBy3 hB3
    go_wp2_with fail
    go_ret
    exact ⟨_, rfl, HB3.out, .inr ⟨b3, k3, rfl, hlt3, HBy3.out⟩⟩
end Go.Proofs.YtpaieadnicmplaaDoor

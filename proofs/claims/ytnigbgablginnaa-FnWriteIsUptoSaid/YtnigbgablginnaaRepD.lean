/- (*Replacer).Replace by kinds (printed by mkRepD.py). -/
import Derived.Test.YtnigbgablginnaaMade
set_option linter.unusedVariables false
namespace Go.Proofs.Ytnigbgablginnaa
open Go.RowKit Go.Lib

theorem meth_bytes (B : Nat) (w : World) : (method 235 69 (at0 B) "Replace").run Try.prog w = .ok (89, at0 B) w := by kernel_rfl
set_option maxRecDepth 100000 in
set_option maxHeartbeats 1000000 in
theorem rep_bytes (R B : Nat) (out : Bs) (s : ByteArray) (w : World) (hc : w.cell? ⟨R, 0, none⟩ = some (.iface 69 (at0 B))) (hk : Calls Try.prog 89 #[at0 B, .string s] w (Rpd out w)) :
    Calls Try.prog 43 #[at0 R, .string s] w (Rpd out w) := by
  have HK := Lib.hid hk
  have hm := meth_bytes B
  clear hk
  go_enter Try.func43, Try.ntmps43
  go_wp2_with (go_at_call 89; (with_reducible refine HK.out.mono ?_); rintro e w1 ⟨rfl, hB⟩; have HB := Lib.hid hB; clear hB)
  go_ret
  exact ⟨rfl, HB.out⟩

theorem meth_strs (B : Nat) (w : World) : (method 235 116 (at0 B) "Replace").run Try.prog w = .ok (96, at0 B) w := by kernel_rfl
set_option maxRecDepth 100000 in
set_option maxHeartbeats 1000000 in
theorem rep_strs (R B : Nat) (out : Bs) (s : ByteArray) (w : World) (hc : w.cell? ⟨R, 0, none⟩ = some (.iface 116 (at0 B))) (hk : Calls Try.prog 96 #[at0 B, .string s] w (Rpd out w)) :
    Calls Try.prog 43 #[at0 R, .string s] w (Rpd out w) := by
  have HK := Lib.hid hk
  have hm := meth_strs B
  clear hk
  go_enter Try.func43, Try.ntmps43
  go_wp2_with (go_at_call 96; (with_reducible refine HK.out.mono ?_); rintro e w1 ⟨rfl, hB⟩; have HB := Lib.hid hB; clear hB)
  go_ret
  exact ⟨rfl, HB.out⟩

theorem meth_gen (B : Nat) (w : World) : (method 235 59 (at0 B) "Replace").run Try.prog w = .ok (49, at0 B) w := by kernel_rfl
set_option maxRecDepth 100000 in
set_option maxHeartbeats 1000000 in
theorem rep_gen (R B : Nat) (out : Bs) (s : ByteArray) (w : World) (hc : w.cell? ⟨R, 0, none⟩ = some (.iface 59 (at0 B))) (hk : Calls Try.prog 49 #[at0 B, .string s] w (Rpd out w)) :
    Calls Try.prog 43 #[at0 R, .string s] w (Rpd out w) := by
  have HK := Lib.hid hk
  have hm := meth_gen B
  clear hk
  go_enter Try.func43, Try.ntmps43
  go_wp2_with (go_at_call 49; (with_reducible refine HK.out.mono ?_); rintro e w1 ⟨rfl, hB⟩; have HB := Lib.hid hB; clear hB)
  go_ret
  exact ⟨rfl, HB.out⟩

theorem meth_single (B : Nat) (w : World) : (method 235 61 (at0 B) "Replace").run Try.prog w = .ok (51, at0 B) w := by kernel_rfl
set_option maxRecDepth 100000 in
set_option maxHeartbeats 1000000 in
theorem rep_single (R B : Nat) (out : Bs) (s : ByteArray) (w : World) (hc : w.cell? ⟨R, 0, none⟩ = some (.iface 61 (at0 B))) (hk : Calls Try.prog 51 #[at0 B, .string s] w (Rpd out w)) :
    Calls Try.prog 43 #[at0 R, .string s] w (Rpd out w) := by
  have HK := Lib.hid hk
  have hm := meth_single B
  clear hk
  go_enter Try.func43, Try.ntmps43
  go_wp2_with (go_at_call 51; (with_reducible refine HK.out.mono ?_); rintro e w1 ⟨rfl, hB⟩; have HB := Lib.hid hB; clear hB)
  go_ret
  exact ⟨rfl, HB.out⟩

/-- What impl.Replace hands back. -/
def ImpR (out : Bs) (w : World) (e : Ending) (w' : World) : Prop := e = .returned (.tuple #[.string ⟨out.toArray⟩, .bool false]) ∧ Below w.heap.size w w'
set_option maxRecDepth 100000 in
set_option maxHeartbeats 1000000 in
theorem impRep (xs : List ByteArray) (qs : List BB) (v : Value) (out : Bs) (s : ByteArray) (w : World) (hv : StrsAt w v xs) (hp : PairsOf xs qs) (hx : xs.length ≤ 2147483647) (hs : ∀ x ∈ xs, x.size ≤ 2147483647)
    (hr : ∀ w1 R, RepOk w1 R qs xs.length → Calls Try.prog 43 #[at0 R, .string s] w1 (Rpd out w1)) :
    Calls Try.prog 39 #[v, .string s] w (ImpR out w) := by
  have HM := Lib.hid (made xs qs v w hv hp hx hs)
  have HR := Lib.hid hr
  clear hv hp hx hs hr
  go_enter Try.func39, Try.ntmps39
  go_wp2_with (first | (go_at_call 42; (with_reducible refine HM.out.mono ?_); rintro e w1 ⟨R, rfl, hR, hB⟩; have HC := Lib.hid (HR.out w1 R hR); have HB := Lib.hid hB; clear hR hB) | (go_at_call 43; (with_reducible refine HC.out.mono ?_); rintro e w2 ⟨rfl, hB2⟩; have HB2 := Lib.hid hB2; clear hB2))
  go_ret2
  exact ⟨rfl, HB.out.trans (HB2.out.mono HB.out.size)⟩
def RpIsR (b : Bool) (w : World) (e : Ending) (w' : World) : Prop := e = .returned (.bool b) ∧ Below w.heap.size w w'
set_option maxRecDepth 100000 in
set_option maxHeartbeats 1000000 in
theorem rpIs (v : Value) (s want : ByteArray) (out : Bs) (w : World) (h : Calls Try.prog 39 #[v, .string s] w (ImpR out w)) :
    Calls Try.prog 23 #[v, .string s, .string want] w (RpIsR (out == want.data.toList) w) := by
  have ht : want.toList = want.data.toList := by rw [Go.ByteArray.toList_eq]
  have HI := Lib.hid h
  clear h
  go_enter Try.func23, Try.ntmps23
  go_wp2_with (go_at_call 39; (with_reducible refine HI.out.mono ?_); rintro e w1 ⟨rfl, hB⟩; have HB := Lib.hid hB; clear hB)
  go_ret
  exact ⟨rfl, HB.out⟩
def TextR (out : Bs) (w : World) (e : Ending) (w' : World) : Prop := e = .returned (.string ⟨out.toArray⟩) ∧ Below w.heap.size w w'
set_option maxRecDepth 100000 in
set_option maxHeartbeats 1000000 in
theorem rpText (v : Value) (s : ByteArray) (out : Bs) (w : World) (h : Calls Try.prog 39 #[v, .string s] w (ImpR out w)) :
    Calls Try.prog 25 #[v, .string s] w (TextR out w) := by
  have HI := Lib.hid h
  clear h
  go_enter Try.func25, Try.ntmps25
  go_wp2_with (go_at_call 39; (with_reducible refine HI.out.mono ?_); rintro e w1 ⟨rfl, hB⟩; have HB := Lib.hid hB; clear hB)
  go_ret
  exact ⟨rfl, HB.out⟩
end Go.Proofs.Ytnigbgablginnaa


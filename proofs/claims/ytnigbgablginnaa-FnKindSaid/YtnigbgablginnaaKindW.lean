/- ZZKind, Kind. -/
import Derived.Test.YtnigbgablginnaaNewR
set_option linter.unusedVariables false
namespace Go.Proofs.Ytnigbgablginnaa
open Go.RowKit Go.Lib

theorem ta_same (t te : TypeId) (xT : TypeId) (v : Value) (h : Try.prog.underlying t = some (.pointer te)) (w : World) : (Instr.typeAssert (.iface t v) xT t true).run Try.prog w = .ok (.tuple #[v, .bool true]) w := by
  simp [Instr.typeAssert, run_underlying h, go_sem, Result.andThen]
theorem ta_other (s t te : TypeId) (xT : TypeId) (v : Value) (h : Try.prog.underlying t = some (.pointer te)) (hz : ∀ w, (zeroValue t).run Try.prog w = .ok (.pointer none) w) (hne : s ≠ t) (w : World) : (Instr.typeAssert (.iface s v) xT t true).run Try.prog w = .ok (.tuple #[.pointer none, .bool false]) w := by
  simp [Instr.typeAssert, run_underlying h, go_sem, Result.andThen, hne, hz]
theorem zS (w : World) : (zeroValue 61).run Try.prog w = .ok (.pointer none) w := by kernel_rfl
theorem zG (w : World) : (zeroValue 59).run Try.prog w = .ok (.pointer none) w := by kernel_rfl
theorem zB (w : World) : (zeroValue 69).run Try.prog w = .ok (.pointer none) w := by kernel_rfl
/-- The number of a kind. -/
def KindIs (qs : List BB) (k : Nat) : Prop := (isSingle qs ∧ k = 0) ∨ (¬ isSingle qs ∧ ¬ oldOne qs ∧ k = 1) ∨ (¬ isSingle qs ∧ oldOne qs ∧ newOne qs ∧ k = 2) ∨ (¬ isSingle qs ∧ oldOne qs ∧ ¬ newOne qs ∧ k = 3)
def KindR (qs : List BB) (w : World) (e : Ending) (w' : World) : Prop := ∃ k : Nat, e = .returned (.int .i64 k) ∧ KindIs qs k ∧ Below w.heap.size w w'
set_option maxRecDepth 100000 in
set_option maxHeartbeats 2000000 in
theorem zzKind (xs : List ByteArray) (qs : List BB) (v : Value) (w : World) (hv : StrsAt w v xs) (hp : PairsOf xs qs) (hx : xs.length ≤ 2147483647) (hs : ∀ x ∈ xs, x.size ≤ 2147483647) :
    Calls Try.prog 45 #[v] w (KindR qs w) := by
  have HN := Lib.hid (newRep xs qs v w hv hp hx hs)
  clear hv hp hs hx
  go_enter Try.func45, Try.ntmps45
  go_wp2_with fail
  refine HN.out.mono ?_
  rintro e w1 ⟨R, rfl, ⟨u, base, hc, hbu, _⟩, hB⟩
  have HB := Lib.hid hB
  clear hB
  have tS := fun (v : Value) (w : World) => ta_same 61 _ 65 v Try.underlying61 w
  have tG := fun (v : Value) (w : World) => ta_same 59 _ 65 v Try.underlying59 w
  have tB := fun (v : Value) (w : World) => ta_same 69 _ 65 v Try.underlying69 w
  have uS1 := fun (v : Value) (w : World) => ta_other 59 61 _ 65 v Try.underlying61 zS (by decide) w
  have uS2 := fun (v : Value) (w : World) => ta_other 69 61 _ 65 v Try.underlying61 zS (by decide) w
  have uS3 := fun (v : Value) (w : World) => ta_other 116 61 _ 65 v Try.underlying61 zS (by decide) w
  have uG2 := fun (v : Value) (w : World) => ta_other 69 59 _ 65 v Try.underlying59 zG (by decide) w
  have uG3 := fun (v : Value) (w : World) => ta_other 116 59 _ 65 v Try.underlying59 zG (by decide) w
  have uB3 := fun (v : Value) (w : World) => ta_other 116 69 _ 65 v Try.underlying69 zB (by decide) w
  cases hbu with
  | single R' F G p v S hq hp h hb =>
    have HK : Hid (KindIs qs 0) := Lib.hid (.inl ⟨⟨p, v, hq, hp⟩, rfl⟩)
    clear h
    go_wp2_with fail
    go_ret
    exact ⟨0, rfl, HK.out, HB.out⟩
  | gen g m N T hs ho h =>
    have HK : Hid (KindIs qs 1) := Lib.hid (.inr (.inl ⟨hs, ho, rfl⟩))
    clear hs ho h
    go_wp2_with fail
    go_ret
    exact ⟨1, rfl, HK.out, HB.out⟩
  | bytes B R' hs ho hn h hR hb =>
    have HK : Hid (KindIs qs 2) := Lib.hid (.inr (.inr (.inl ⟨hs, ho, hn, rfl⟩)))
    clear hs ho hn h hR
    go_wp2_with fail
    go_ret
    exact ⟨2, rfl, HK.out, HB.out⟩
  | strs B Lb hs ho hn h hb =>
    have HK : Hid (KindIs qs 3) := Lib.hid (.inr (.inr (.inr ⟨hs, ho, hn, rfl⟩)))
    clear hs ho hn h
    go_wp2_with fail
    go_ret
    exact ⟨3, rfl, HK.out, HB.out⟩
set_option maxHeartbeats 1000000 in
theorem impKind (xs : List ByteArray) (qs : List BB) (v : Value) (w : World) (hv : StrsAt w v xs) (hp : PairsOf xs qs) (hx : xs.length ≤ 2147483647) (hs : ∀ x ∈ xs, x.size ≤ 2147483647) :
    Calls Try.prog 31 #[v] w (KindR qs w) := by
  have HN := Lib.hid (zzKind xs qs v w hv hp hx hs)
  clear hv hp hs hx
  go_enter Try.func31, Try.ntmps31
  go_wp2_with fail
  refine HN.out.mono ?_
  rintro e w1 ⟨k, rfl, hK, hB⟩
  have HK := Lib.hid hK
  have HB := Lib.hid hB
  clear hK hB
  go_wp2_with fail
  go_ret
  exact ⟨k, rfl, HK.out, HB.out⟩
end Go.Proofs.Ytnigbgablginnaa

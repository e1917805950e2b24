/- Lookup of the thin package. -/
import Derived.Test.YtnigbgablginnaaLkW
import Derived.Test.YtnigbgablginnaaPrS
set_option linter.unusedVariables false
namespace Go.Proofs.Ytnigbgablginnaa
open Go.RowKit Go.Lib

theorem pairsOf_up : ∀ (xs : List ByteArray), xs.length % 2 = 0 → PairsOf xs (pairUp xs)
  | [], _ => ⟨rfl, fun k q h => by simp [pairUp] at h⟩
  | [x], h => by simp at h
  | x :: y :: r, h => by
    obtain ⟨h1, h2⟩ := pairsOf_up r (by simp at h; omega)
    refine ⟨by show r.length + 2 = 2 * ((pairUp r).length + 1); omega, fun k q hq => ?_⟩
    cases k with
    | zero =>
      have hq' : some (x, y) = some q := hq
      cases hq'
      exact ⟨rfl, rfl⟩
    | succ k =>
      have := h2 k q hq
      exact ⟨by rw [Nat.mul_succ]; exact this.1, by rw [Nat.mul_succ]; exact this.2⟩
theorem prs_up (xs : List ByteArray) : (pairUp xs).map tb = prs xs := by
  unfold prs
  rw [pairUp_map]; rfl

/-- A text's pair found. -/
abbrev foundV (v : ByteArray) (n : Nat) : Value := .tuple #[.string v, .int .i64 n, .bool true]
def SomeV (x : Value) (w : World) (e : Ending) (w' : World) : Prop := e = .returned x ∧ Below w.heap.size w w'
set_option maxRecDepth 100000 in
set_option maxHeartbeats 1000000 in
theorem Lookup_some (xs : List ByteArray) (v : Value) (s : ByteArray) (w : World) (q : BB) (he : xs.length % 2 = 0) (hv : StrsAt w v xs) (hx : xs.length ≤ 2147483647) (hz : ∀ x ∈ xs, x.size ≤ 140737488355328) (hs : s.size < 140737488355328)
    (hf : firstP (prs xs) s.data.toList true = some (tb q)) :
    Calls Try.prog 30 #[v, .string s, .bool false] w (SomeV (foundV q.2 q.1.size) w) := by
  have HV := Lib.hid hv
  have HP := Lib.hid (pairsOf_up xs he)
  have HF : Hid (lookV (firstP ((pairUp xs).map tb) s.data.toList true) = foundV q.2 q.1.size) := Lib.hid (by rw [prs_up, hf]; show Value.tuple #[.string ⟨q.2.data.toList.toArray⟩, .int .i64 q.1.data.toList.length, .bool true] = _; rw [← Lib.size_eq])
  have HZ := Lib.hid hz
  clear hv hz hf he
  have H1 : Hid (Calls Try.prog 44 #[v, .string s, .bool false] w (SomeV (foundV q.2 q.1.size) w)) := Lib.hid (by
    go_enter Try.func44, Try.ntmps44
    go_wp2_with fail
    refine (makeGeneric xs (pairUp xs) v w HP.out HV.out hx HZ.out).mono ?_
    rintro e w1 ⟨g, m, N, T, rfl, hG, hB⟩
    have HG := Lib.hid hG
    have HB := Lib.hid hB
    clear hG hB
    go_wp2_with fail
    refine (genLookup g w.heap.size xs.length N (pairUp xs) m T s false w1 HG.out (by have := HP.out.1; omega) hs).mono ?_
    rintro e w2 ⟨n, rfl, rfl⟩
    rw [show (!false) = true from rfl, HF.out]
    go_wp2_with fail
    go_ret3
    exact ⟨rfl, belowDrewN HB.out n⟩)
  go_enter Try.func30, Try.ntmps30
  go_wp2_with fail
  refine H1.out.mono ?_
  rintro e w1 ⟨rfl, hB⟩
  have HB := Lib.hid hB
  clear hB
  go_wp2_with fail
  go_ret3
  exact ⟨rfl, HB.out⟩
end Go.Proofs.Ytnigbgablginnaa

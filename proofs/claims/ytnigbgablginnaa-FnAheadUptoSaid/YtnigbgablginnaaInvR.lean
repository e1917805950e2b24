/- Single operations on strings and slices of strings, for the law of drawn regions. -/
import Derived.Test.YtnigbgablginnaaInv
set_option linter.unusedVariables false
namespace Go.Proofs.Ytnigbgablginnaa
open Go.RowKit Go.Lib
section
variable {ops : Array Oper} {Q : Exit → Act → World → Prop} {o : Oper} {a : Act} {w w0 : World} {x y z : Operand}
theorem od_cat {s t : ByteArray} (hl : s.size + t.size ≤ 4611686018427387904) (hw : Region.wanted o (yielded ops a.tmps) = true) (hop : o.op = .binOp .add 9 x y 9) (hx : a.eval x = .string s) (hy : a.eval y = .string t) : OpDone Try.prog ops Q (isV (.string (s ++ t))) w0 a w o := by
  refine od_same hw (v := .string (s ++ t)) ?_ rfl
  have h1 : s.size + t.size ≤ 9223372036854775807 := by omega
  unfold execOp; rw [hop]
  simp [hx, hy, eqGuard]
  go_simp
theorem od_sidx {G f n c : Nat} {k : Nat} (hk : k < n) (hw : Region.wanted o (yielded ops a.tmps) = true) (hop : o.op = .indexAddr 22 x (.const (.int .i64 k))) (hx : a.eval x = .slice (some ⟨G, f, none⟩) n c) : OpDone Try.prog ops Q (isV (.pointer (some ⟨G, f + k, none⟩))) w0 a w o := by
  refine od_same hw (v := .pointer (some ⟨G, f + k, none⟩)) ?_ rfl
  have h1 : (k : Int) < (n : Int) := by omega
  have hk' : a.eval (.const (.int .i64 k)) = .int .i64 k := rfl
  unfold execOp; rw [hop]
  simp [hx, hk']
  go_simp
theorem od_sload {G f : Nat} {s : ByteArray} (hc : w.cell? ⟨G, f, none⟩ = some (.string s)) (hw : Region.wanted o (yielded ops a.tmps) = true) (hop : o.op = .load 9 x) (hx : a.eval x = .pointer (some ⟨G, f, none⟩)) : OpDone Try.prog ops Q (isV (.string s)) w0 a w o := by
  refine od_same hw (v := .string s) ?_ rfl
  unfold execOp; rw [hop]
  simp [hx]
  go_simp
end
end Go.Proofs.Ytnigbgablginnaa

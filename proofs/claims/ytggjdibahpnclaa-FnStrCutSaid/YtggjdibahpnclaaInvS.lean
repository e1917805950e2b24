/- Single operations on strings and numbers, for the law of drawn regions. -/
import Derived.Test.YtggjdibahpnclaaInv
namespace Go.Proofs.Ytggjdibahpnclaa
open Go.RowKit Go.Lib
section
variable {ops : Array Oper} {Q : Exit → Act → World → Prop} {o : Oper} {a : Act} {w w0 : World} {x y z : Operand}
theorem od_slice_to {s : ByteArray} {k : Nat} (hk : k ≤ s.size) (hw : Region.wanted o (yielded ops a.tmps) = true) (hop : o.op = .slice 9 x none (some y) none) (hx : a.eval x = .string s) (hy : a.eval y = .int .i64 k) : OpDone Try.prog ops Q (isV (.string (s.extract 0 k))) w0 a w o := by
  refine od_same hw (v := .string (s.extract 0 k)) ?_ rfl
  have h1 : (k : Int) ≤ s.size := by omega
  unfold execOp; rw [hop]
  simp [hx, hy]
  go_simp
theorem od_slice_from {s : ByteArray} {k : Nat} (hk : k ≤ s.size) (hw : Region.wanted o (yielded ops a.tmps) = true) (hop : o.op = .slice 9 x (some y) none none) (hx : a.eval x = .string s) (hy : a.eval y = .int .i64 k) : OpDone Try.prog ops Q (isV (.string (s.extract k s.size))) w0 a w o := by
  refine od_same hw (v := .string (s.extract k s.size)) ?_ rfl
  have h1 : (k : Int) ≤ s.size := by omega
  unfold execOp; rw [hop]
  simp [hx, hy]
  go_simp
theorem od_len {s : ByteArray} (hw : Region.wanted o (yielded ops a.tmps) = true) (hop : o.op = .call { callee := .builtin .len, args := #[x], argTypes := #[9] }) (hty : o.type = 3) (hx : a.eval x = .string s) : OpDone Try.prog ops Q (isV (.int .i64 s.size)) w0 a w o := by
  refine od_same hw (v := .int .i64 s.size) ?_ rfl
  unfold execOp; rw [hop]
  simp [hx, resolve, invoke, hty]
  go_simp
theorem od_add {m n : Nat} (hm : m + n < 9223372036854775808) (hw : Region.wanted o (yielded ops a.tmps) = true) (hop : o.op = .binOp .add 3 x y 3) (hx : a.eval x = .int .i64 m) (hy : a.eval y = .int .i64 n) : OpDone Try.prog ops Q (isV (.int .i64 ((m + n : Nat) : Int))) w0 a w o := by
  refine od_same hw (v := .int .i64 ((m + n : Nat) : Int)) ?_ rfl
  have h1 : IntKind.i64.wrap ((m : Int) + n) = (m : Int) + n := by rw [IntKind.wrap_i64]; omega
  unfold execOp; rw [hop]
  simp [hx, hy, eqGuard]
  go_simp
end
end Go.Proofs.Ytggjdibahpnclaa

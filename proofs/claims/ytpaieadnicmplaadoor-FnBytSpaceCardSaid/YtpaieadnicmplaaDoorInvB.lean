/- More of what a slot may hold, for the law of drawn regions: what BytTrimSpace hands back; texts. -/
import Derived.Test.YtpaieadnicmplaaDoorInv
import Derived.Test.YtpaieadnicmplaaDoorBTrI
set_option linter.unusedVariables false
namespace Go.Proofs.YtpaieadnicmplaaDoor
open Go.RowKit Go.Lib

/-- nil or a slice that reads as t. -/
def TxV (t : ByteArray) (v : Value) (w : World) : Prop := (v = .slice none 0 0 ∧ t.size = 0) ∨ ∃ g c, v = .slice (some ⟨g, 0, none⟩) t.size c ∧ g < w.heap.size ∧ Lib.Bytes w g 0 t
theorem TxV.keep {t : ByteArray} {v : Value} {w w' : World} (h : TxV t v w) (hb : KC w w') : TxV t v w' := by
  rcases h with h | ⟨g, c, e, hg, hB⟩
  · exact .inl h
  · exact .inr ⟨g, c, e, Nat.lt_of_lt_of_le hg hb.size, fun i hi => (hb.cell _ _ hg).trans (hB i hi)⟩
def isTx (t : ByteArray) : SP := ⟨TxV t, fun _ _ _ h hb => h.keep hb⟩
theorem StrsAt.keep {w w' : World} {v : Value} {xs : List ByteArray} (h : StrsAt w v xs) (hb : KC w w') : StrsAt w' v xs := by
  obtain ⟨A, c, e, hc, hx⟩ := h
  refine ⟨A, c, e, hc, fun hne => ?_⟩
  obtain ⟨g, o, eA, hg, hcell⟩ := hx hne
  exact ⟨g, o, eA, Nat.lt_of_lt_of_le hg hb.size, fun j u hu => (hb.cell _ _ hg).trans (hcell j u hu)⟩
def isSs (xs : List ByteArray) : SP := ⟨fun v w => StrsAt w v xs, fun _ _ _ h hb => h.keep hb⟩
section
variable {ops : Array Oper} {Q : Exit → Act → World → Prop} {o : Oper} {a : Act} {w w0 : World} {x y z : Operand}
theorem od_tx {t : ByteArray} (hw : Region.wanted o (yielded ops a.tmps) = true) (hop : o.op = .convert 23 9 x) (hx : TxV t (a.eval x) w) : OpDone Tryd.prog ops Q (isV (.string t)) w0 a w o := by
  refine od_same hw (v := .string t) ?_ rfl
  unfold execOp; rw [hop]
  rcases hx with ⟨e, h0⟩ | ⟨g, c, e, hg, hB⟩
  · have ht : t = ByteArray.empty := emptyS t h0
    subst ht
    have hcv := run_convert_bytes_nil (P := Tryd.prog) (w := w) 23 5 Tryd.underlying23 Tryd.underlying5 0 0 9 Tryd.underlying9
    simp [e]
    simp [hcv, Result.andThen]
  · have hcv := Lib.run_convert_whole (P := Tryd.prog) w 23 5 9 Tryd.underlying23 Tryd.underlying5 Tryd.underlying9 g 0 t hB c
    simp [e]
    simp [hcv, Result.andThen]
theorem od_not {b : Bool} (hw : Region.wanted o (yielded ops a.tmps) = true) (hop : o.op = .unOp .not 4 x) (hx : a.eval x = .bool b) : OpDone Tryd.prog ops Q (isV (.bool (!b))) w0 a w o := by
  refine od_same hw (v := .bool (!b)) ?_ rfl
  unfold execOp; rw [hop]
  simp [hx]
  go_simp
theorem od_eql_str {s : ByteArray} (hw : Region.wanted o (yielded ops a.tmps) = true) (hop : o.op = .binOp .eql 9 x y 9) (hx : a.eval x = .string s) (hy : a.eval y = .string s) : OpDone Tryd.prog ops Q (isV (.bool true)) w0 a w o := by
  refine od_same hw (v := .bool true) ?_ rfl
  unfold execOp; rw [hop]
  simp [hx, hy, eqGuard]
  go_simp
end
end Go.Proofs.YtpaieadnicmplaaDoor

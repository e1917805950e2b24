/- append of strings to a slice of the call's own: the run as an equation. -/
import Derived.Test.YtnigbgablginnaaGenS
import Derived.Maps.AppendAt
set_option linter.unusedVariables false
namespace Go.Proofs.Ytnigbgablginnaa
open Go.RowKit Go.Lib

/-- append(row, ys...): the run. -/
theorem app_run (W : World) (base : Nat) (v : Value) (xs ys : List ByteArray) (G o c : Nat) (hown : W.ownsRow base 9 1 v xs.length (xs.map Value.string)) (hy : ∀ j y, ys[j]? = some y → W.cell? ⟨G, o + j, none⟩ = some (.string y)) (hn : xs.length + ys.length ≤ 4294967296) (hb : base ≤ W.heap.size) :
    ∃ v' W', (Builtin.append_ #[22, 22] 22 #[v, .slice (some ⟨G, o, none⟩) ys.length c]).run Try.prog W = .ok v' W' ∧ W'.ownsRow base 9 1 v' (xs ++ ys).length ((xs ++ ys).map Value.string) ∧ (∀ B, B ≤ base → Below B W W') ∧ StrsAt W' v' (xs ++ ys) := by
  obtain ⟨i0, hi, hz0, hz1, hz2⟩ := info_parts str_info
  obtain ⟨v', W', hrun, hown', hgrow, _, _⟩ := run_append_own_at (P := Try.prog) (w := W) base 22 22 9 i0 (.string ByteArray.empty) 1 16 Try.underlying22 hi hz0 hz1 hz2 rfl (by decide) v xs.length (xs.map Value.string) hown ⟨G, o, none⟩ ys.length c (ys.map Value.string) (by simp) (fun j u hu => by
    rw [List.getElem?_map] at hu
    cases hyj : ys[j]? with
    | none => rw [hyj] at hu; cases hu
    | some y =>
      rw [hyj] at hu
      obtain rfl : Value.string y = u := Option.some.inj hu
      rw [Addr.add_mid]
      exact hy j y hyj) (fun u hu => by obtain ⟨x, _, rfl⟩ := List.mem_map.1 hu; rfl) (by unfold maxLen; omega) (by omega) hb
  have hown2 : W'.ownsRow base 9 1 v' (xs ++ ys).length ((xs ++ ys).map Value.string) := by
    rw [List.length_append, List.map_append]; exact hown'
  exact ⟨v', W', hrun, hown2, fun B hB => (Below.refl B W).grown hgrow (by omega) (fun k ek => by have := (hown.lt k ek).1; omega), StrsAt.of_own hown2⟩
/-- append by its run, guarded or not. -/
theorem wpList_app {P : Program} {w w' : World} {ops : Array Oper} {rest : List Oper} {o : Oper} {a : Act} {Q : Exit → Act → World → Prop} (hw : Region.wanted o (yielded ops a.tmps) = true) (s x : Operand) (t t' : TypeId) (ho : o.op = .call { callee := .builtin .append, args := #[s, x], argTypes := #[t, t'] }) (v u v' : Value) (hs : a.eval s = v) (hx : a.eval x = u)
    (hrun : (Builtin.append_ #[t, t'] o.type #[v, u]).run P w = .ok v' w') (h : wpList P ops Q rest (a.put o.dst v') w') : wpList P ops Q (o :: rest) a w := by
  refine wpList_step fun K hK => ?_
  rw [if_pos hw]
  unfold Oper.wp execOp
  simp only [ho, resolve, invoke, builtin, Sem.run_bind, Sem.run_pure, Result.andThen_ok, List.map_toArray, List.map_cons, List.map_nil, hs, hx, hrun]
  exact hK _ _ h
theorem two_cells (W : World) (a b : ByteArray) : ∀ j y, [a, b][j]? = some y → (W.alloc (.cells #[.string a, .string b] 9)).cell? ⟨W.heap.size, 0 + j, none⟩ = some (.string y) := fun j y hy => by
  rw [Nat.zero_add, cell_of_row _ _ _ _ _ _ (heap_alloc_new W _)]
  match j, hy with
  | 0, hy => cases hy; rfl
  | 1, hy => cases hy; rfl
end Go.Proofs.Ytnigbgablginnaa

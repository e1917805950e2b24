/- (*genericReplacer).lookup: the walk. -/
import Derived.Test.YtnigbgablginnaaMkG
import Derived.LaidEqlPtr
set_option linter.unusedVariables false
namespace Go.Proofs.Ytnigbgablginnaa
open Go.RowKit Go.Lib

/-- What lookup tells. -/
def lookV : Option (Bs × Bs) → Value
  | some p => .tuple #[.string ⟨p.2.toArray⟩, .int .i64 p.1.length, .bool true]
  | none => .tuple #[.string ByteArray.empty, .int .i64 0, .bool false]
theorem look_of {F : Bs → ByteArray × Nat} {qs : List BB} {L : Nat} (hH : Holds F qs qs.length L) (hL : 2 * qs.length ≤ L) {s : Bs} {e : Bool} {bp : Nat} {val : ByteArray} {kl : Nat} {found : Bool} (h : Best F s e (s.length + 1) bp val kl found) :
    Value.tuple #[.string val, .int .i64 kl, .bool found] = lookV (firstP (qs.map tb) s e) := by
  have hb := h.first hH hL
  cases hf : firstP (qs.map tb) s e with
  | none =>
    obtain ⟨rfl, rfl, rfl⟩ := hb.2 hf
    rfl
  | some p =>
    obtain ⟨rfl, hv, rfl⟩ := hb.1 p hf
    have : val = ⟨p.2.toArray⟩ := by rw [← hv]
    rw [this]; rfl
def LookR (qs : List BB) (s : ByteArray) (e : Bool) (w : World) (en : Ending) (w' : World) : Prop := ∃ n, en = .returned (lookV (firstP (qs.map tb) s.data.toList e)) ∧ w' = w.drewN n

/-- Where the search stands at its root, or below. -/
def AtRoot (T : Tr) (g n : Nat) : Prop := (n = 0 ∧ T.root = some g) ∨ (0 < n ∧ ¬ T.has g)
theorem drop_bt (s : ByteArray) (n : Nat) (h : n < s.size) : s.data.toList.drop n = bt s n :: s.data.toList.drop (n + 1) := by
  have h1 : n < s.data.toList.length := by simpa using h
  rw [List.drop_eq_getElem_cons h1]
  have := bt_get s n h
  rw [List.getElem?_eq_getElem h1] at this
  rw [Option.some.inj this]
theorem shape_of_cell {w : World} {a o : Nat} {v : Value} (h : w.cell? ⟨a, o, none⟩ = some v) : ∃ e n, w.shape? a = some (e, n) := by
  unfold World.cell? at h
  unfold World.shape?
  cases hb : w.heap[a]? with
  | none => rw [hb] at h; cases h
  | some ob =>
    rw [hb] at h
    cases ob with
    | cells c e fr => exact ⟨e, c.size, rfl⟩
    | _ => cases h
theorem ptrTgt : (Try.prog.info? 77).map (·.size) = some 5 := by kernel_rfl
theorem ptr_eql_other {w : World} {a b : Nat} {u v : Value} (hne : a ≠ b) (ca : w.cell? ⟨a, 1, none⟩ = some u) (cb : w.cell? ⟨b, 5, none⟩ = some v) (fa : ∀ o, w.frozen? ⟨a, o, none⟩ = false) (fb : ∀ o, w.frozen? ⟨b, o, none⟩ = false) :
    (binOp .eql 74 (.pointer (some ⟨a, 0, none⟩)) (.pointer (some ⟨b, 0, none⟩))).run Try.prog w = .ok (.bool false) w := by
  obtain ⟨i0, hi, hz⟩ := Option.map_eq_some_iff.1 ptrTgt
  obtain ⟨ea, na, ha⟩ := shape_of_cell ca
  obtain ⟨eb, nb, hb⟩ := shape_of_cell cb
  have h : ∀ d : Nat, (Op.equalIn (d + 1) 74 (.pointer (some ⟨a, 0, none⟩)) (.pointer (some ⟨b, 0, none⟩))).run Try.prog w = .ok false w := fun d => by
    simp [Op.equalIn, run_underlying Try.underlying74, sizeOf, typeInfo, hi, hz, sameAddr, hne, fa, fb, noView, viewAt, ha, hb, mayBeOne, stringish]
  simp only [binOp]
  simp [Op.equal, Op.maxDepth, h 9999]
theorem ptr_eql_same (w : World) (a : Addr) : (binOp .eql 74 (.pointer (some a)) (.pointer (some a))).run Try.prog w = .ok (.bool true) w := by
  obtain ⟨i0, hi, hz⟩ := Option.map_eq_some_iff.1 ptrTgt
  exact run_eql_ptr_same w a Try.underlying74 hi
theorem get_val {w : World} {m : UInt8 → Nat} {N base : Nat} {T : Tr} {a : Nat} (h : Lies w m N base T) (hr : T.root = some a) {v : ByteArray} {p : Nat} {pref : ByteArray} {nx tbl : Value} (hN : NodeAt w a v p pref nx tbl) : (T.get m []).1 = v := by
  cases T with
  | nil => cases hr
  | leaf b v' p' => cases hr; rw [Tr.get_leaf_nil]; exact Value.string.inj (Option.some.inj (h.2.c0.symm.trans hN.c0))
  | pre b v' p' key n => cases hr; rw [Tr.get_pre_nil]; exact Value.string.inj (Option.some.inj (h.2.1.c0.symm.trans hN.c0))
  | tab b v' p' tb ch => cases hr; rw [Tr.get_tab_nil]; exact Value.string.inj (Option.some.inj (h.2.1.c0.symm.trans hN.c0))
end Go.Proofs.Ytnigbgablginnaa

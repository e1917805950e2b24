/- (*trieNode).add: what it makes of the tree. -/
import Derived.Test.YtnigbgablginnaaTrB
import Derived.Test.YtnigbgablginnaaTrC
set_option linter.unusedVariables false
namespace Go.Proofs.Ytnigbgablginnaa
open Go.RowKit Go.Lib

/-! ### nodes behind single writes -/
section node
variable {w : World} {a : Nat} {v : ByteArray} {p : Nat} {pref : ByteArray} {nx tbl : Value}
theorem NodeAt.set0 (h : NodeAt w a v p pref nx tbl) (u : ByteArray) : NodeAt (w.setCell ⟨a, 0, none⟩ (.string u)) a u p pref nx tbl :=
  ⟨World.cell?_setCell_same _ _ _ h.c0, by rw [World.cell?_setCell_other _ _ _ _ (by simp)]; exact h.c1, by rw [World.cell?_setCell_other _ _ _ _ (by simp)]; exact h.c2, by rw [World.cell?_setCell_other _ _ _ _ (by simp)]; exact h.c3, by rw [World.cell?_setCell_other _ _ _ _ (by simp)]; exact h.c4, fun o => by rw [World.frozen?_setCell]; exact h.nf o⟩
theorem NodeAt.set1 (h : NodeAt w a v p pref nx tbl) (u : Nat) : NodeAt (w.setCell ⟨a, 1, none⟩ (.int .i64 u)) a v u pref nx tbl :=
  ⟨by rw [World.cell?_setCell_other _ _ _ _ (by simp)]; exact h.c0, World.cell?_setCell_same _ _ _ h.c1, by rw [World.cell?_setCell_other _ _ _ _ (by simp)]; exact h.c2, by rw [World.cell?_setCell_other _ _ _ _ (by simp)]; exact h.c3, by rw [World.cell?_setCell_other _ _ _ _ (by simp)]; exact h.c4, fun o => by rw [World.frozen?_setCell]; exact h.nf o⟩
theorem NodeAt.set2 (h : NodeAt w a v p pref nx tbl) (u : ByteArray) : NodeAt (w.setCell ⟨a, 2, none⟩ (.string u)) a v p u nx tbl :=
  ⟨by rw [World.cell?_setCell_other _ _ _ _ (by simp)]; exact h.c0, by rw [World.cell?_setCell_other _ _ _ _ (by simp)]; exact h.c1, World.cell?_setCell_same _ _ _ h.c2, by rw [World.cell?_setCell_other _ _ _ _ (by simp)]; exact h.c3, by rw [World.cell?_setCell_other _ _ _ _ (by simp)]; exact h.c4, fun o => by rw [World.frozen?_setCell]; exact h.nf o⟩
theorem NodeAt.set3 (h : NodeAt w a v p pref nx tbl) (u : Value) : NodeAt (w.setCell ⟨a, 3, none⟩ u) a v p pref u tbl :=
  ⟨by rw [World.cell?_setCell_other _ _ _ _ (by simp)]; exact h.c0, by rw [World.cell?_setCell_other _ _ _ _ (by simp)]; exact h.c1, by rw [World.cell?_setCell_other _ _ _ _ (by simp)]; exact h.c2, World.cell?_setCell_same _ _ _ h.c3, by rw [World.cell?_setCell_other _ _ _ _ (by simp)]; exact h.c4, fun o => by rw [World.frozen?_setCell]; exact h.nf o⟩
theorem NodeAt.set4 (h : NodeAt w a v p pref nx tbl) (u : Value) : NodeAt (w.setCell ⟨a, 4, none⟩ u) a v p pref nx u :=
  ⟨by rw [World.cell?_setCell_other _ _ _ _ (by simp)]; exact h.c0, by rw [World.cell?_setCell_other _ _ _ _ (by simp)]; exact h.c1, by rw [World.cell?_setCell_other _ _ _ _ (by simp)]; exact h.c2, by rw [World.cell?_setCell_other _ _ _ _ (by simp)]; exact h.c3, World.cell?_setCell_same _ _ _ h.c4, fun o => by rw [World.frozen?_setCell]; exact h.nf o⟩
theorem NodeAt.far (h : NodeAt w a v p pref nx tbl) {b : Nat} (hb : b ≠ a) (o : Nat) (u : Value) : NodeAt (w.setCell ⟨b, o, none⟩ u) a v p pref nx tbl := h.same (Below.heap_setCell _ _ _ _ (fun e => hb e.symm))
theorem NodeAt.alloc (h : NodeAt w a v p pref nx tbl) (o : Obj) : NodeAt (w.alloc o) a v p pref nx tbl := h.same (Below.heap_alloc _ _ _ h.lt)
theorem NodeAt.drewN (h : NodeAt w a v p pref nx tbl) (n : Nat) : NodeAt (w.drewN n) a v p pref nx tbl := h.same rfl
end node
theorem NodeAt.new (w : World) (v : ByteArray) (p : Nat) (pref : ByteArray) (nx tbl : Value) (t : TypeId) : NodeAt (w.alloc (.cells (nodeCells v p pref nx tbl) t)) w.heap.size v p pref nx tbl := by
  have h := heap_alloc_new w (.cells (nodeCells v p pref nx tbl) t)
  exact ⟨by rw [cell_of_row _ _ 0 _ _ _ h]; rfl, by rw [cell_of_row _ _ 1 _ _ _ h]; rfl, by rw [cell_of_row _ _ 2 _ _ _ h]; rfl, by rw [cell_of_row _ _ 3 _ _ _ h]; rfl, by rw [cell_of_row _ _ 4 _ _ _ h]; rfl, fun o => frozen_of_row _ _ o _ _ h⟩

/-! ### trees behind single writes -/
section lies
variable {w : World} {m : UInt8 → Nat} {N base : Nat} {T : Tr}
theorem Lies.set (h : Lies w m N base T) {b : Nat} (hb : ¬ T.has b) (o : Nat) (u : Value) : Lies (w.setCell ⟨b, o, none⟩ u) m N base T :=
  h.same (by simp) (fun c hc => Below.heap_setCell _ _ _ _ (fun e => hb (by have : c = b := e; exact this ▸ hc)))
theorem Lies.alloc (h : Lies w m N base T) (o : Obj) : Lies (w.alloc o) m N base T := h.same (by simp) (fun c hc => Below.heap_alloc _ _ _ (h.lt c hc).2)
theorem Lies.drewN (h : Lies w m N base T) (n : Nat) : Lies (w.drewN n) m N base T := h.same (w := w) (w' := w.drewN n) (Nat.le_refl w.heap.size) (fun _ _ => rfl)
theorem Lies.not_new (h : Lies w m N base T) {b : Nat} (hb : w.heap.size ≤ b) : ¬ T.has b := fun e => by have := (h.lt b e).2; omega
end lies
section rep
variable {w : World} {g N : Nat} {m : UInt8 → Nat}
theorem RepAt.lt (h : RepAt w g N m) : g < w.heap.size := World.block_lt_of_cell? _ _ h.size
theorem RepAt.block (h : RepAt w g N m) {w' : World} (e : w'.heap[g]? = w.heap[g]?) : RepAt w' g N m := h.same (fun o _ => World.cell?_of_block (w := w) e)
theorem RepAt.set (h : RepAt w g N m) {b : Nat} (hb : b ≠ g) (o : Nat) (u : Value) : RepAt (w.setCell ⟨b, o, none⟩ u) g N m := h.block (Below.heap_setCell _ _ _ _ (fun e => hb e.symm))
theorem RepAt.alloc (h : RepAt w g N m) (o : Obj) : RepAt (w.alloc o) g N m := h.block (Below.heap_alloc _ _ _ h.lt)
theorem RepAt.drewN (h : RepAt w g N m) (n : Nat) : RepAt (w.drewN n) g N m := h.block rfl
end rep

/-- Of the old blocks only those in S have been written, of block a only its first five cells. -/
structure Loc (w w' : World) (a : Nat) (S : Nat → Prop) : Prop where
  kept : ∀ b, b < w.heap.size → ¬ S b → w'.heap[b]? = w.heap[b]?
  far : ∀ o, 5 ≤ o → w'.cell? ⟨a, o, none⟩ = w.cell? ⟨a, o, none⟩
  size : w.heap.size ≤ w'.heap.size
  os : w'.os = w.os
  tape : w'.tape = w.tape
  output : w'.output = w.output
theorem Loc.refl (w : World) (a : Nat) (S : Nat → Prop) : Loc w w a S := ⟨fun _ _ _ => rfl, fun _ _ => rfl, Nat.le_refl _, rfl, rfl, rfl⟩
theorem Loc.drewN {w w' : World} {a : Nat} {S : Nat → Prop} (h : Loc w w' a S) (n : Nat) : Loc w (w'.drewN n) a S := ⟨h.kept, h.far, h.size, h.os, h.tape, h.output⟩
theorem Loc.alloc {w w' : World} {a : Nat} {S : Nat → Prop} (h : Loc w w' a S) (ha : a < w.heap.size) (o : Obj) : Loc w (w'.alloc o) a S :=
  ⟨fun b hb hs => (Below.heap_alloc _ _ _ (Nat.lt_of_lt_of_le hb h.size)).trans (h.kept b hb hs), fun x hx => (World.cell?_alloc_lt _ _ _ (Nat.lt_of_lt_of_le ha h.size)).trans (h.far x hx), by have := h.size; simp; omega, h.os, h.tape, h.output⟩
theorem Loc.set {w w' : World} {a : Nat} {S : Nat → Prop} (h : Loc w w' a S) {b : Nat} (hb : S b ∨ w.heap.size ≤ b) {o : Nat} (ho : b = a → o < 5) (u : Value) : Loc w (w'.setCell ⟨b, o, none⟩ u) a S :=
  ⟨fun c hc hs => (Below.heap_setCell _ _ _ _ (fun e : c = b => hb.elim (fun hb => hs (e ▸ hb)) (fun hb => by omega))).trans (h.kept c hc hs),
    fun x hx => (World.cell?_setCell_other _ _ _ _ (fun e => by have h1 := congrArg Addr.block e; have h2 := congrArg Addr.off e; have := ho h1; simp at h2; omega)).trans (h.far x hx), by simpa using h.size, h.os, h.tape, h.output⟩

/-- What a call leaves, after local writes. -/
theorem Wr.of_loc {w w0 w' : World} {m : UInt8 → Nat} {N base a : Nat} {S : Nat → Prop} {T T' U U' : Tr} (hl : Loc w w0 a S) (hw : Wr w0 w' m N base U U') (hT' : Lies w' m N base T')
    (hroot : T.root = some a) (hroot' : T'.root = some a) (hS : ∀ b, S b → T.has b) (hU : ∀ b, U.has b → T.has b ∨ w.heap.size ≤ b) (hsub : ∀ b, T'.has b → T.has b ∨ w.heap.size ≤ b)
    (ha : a < w.heap.size) (hUa : ¬ U.has a) : Wr w w' m N base T T' where
  lies := hT'
  root := hroot'.trans hroot.symm
  sub := hsub
  kept := fun b hb hn => (hw.kept b (Nat.lt_of_lt_of_le hb hl.size) (fun e => (hU b e).elim hn (fun h => by omega))).trans (hl.kept b hb (fun e => hn (hS b e)))
  far := fun x hx o ho => by
    obtain rfl : a = x := Option.some.inj (hroot.symm.trans hx)
    exact (World.cell?_of_block (w := w0) (hw.kept a (Nat.lt_of_lt_of_le ha hl.size) hUa)).trans (hl.far o ho)
  size := Nat.le_trans hl.size hw.size
  os := hw.os.trans hl.os
  tape := hw.tape.trans hl.tape
  output := hw.output.trans hl.output
theorem Wr.new {w0 w' : World} {m : UInt8 → Nat} {N base : Nat} {U U' : Tr} (hw : Wr w0 w' m N base U U') {b : Nat} (hb : b < w0.heap.size) (hn : ¬ U.has b) : ¬ U'.has b := fun e => by
  rcases hw.sub b e with h | h
  · exact hn h
  · omega
theorem Wr.node {w0 w' : World} {m : UInt8 → Nat} {N base : Nat} {U U' : Tr} (hw : Wr w0 w' m N base U U') {a : Nat} {v : ByteArray} {p : Nat} {pref : ByteArray} {nx tbl : Value} (h : NodeAt w0 a v p pref nx tbl) (hn : ¬ U.has a) : NodeAt w' a v p pref nx tbl :=
  h.same (hw.kept a h.lt hn)
theorem Wr.tree {w0 w' : World} {m : UInt8 → Nat} {N base : Nat} {U U' V : Tr} (hw : Wr w0 w' m N base U U') (h : Lies w0 m N base V) (hn : ∀ b, V.has b → ¬ U.has b) : Lies w' m N base V :=
  h.same hw.size (fun b hb => hw.kept b (h.lt b hb).2 (hn b hb))
theorem ptr_ne_nil {T : Tr} {a : Nat} (h : T.root = some a) : T ≠ .nil := fun e => by rw [e] at h; cases h
theorem ptr_root {T : Tr} {a : Nat} (h : T.root = some a) : T.ptr = at0 a := by rw [Tr.ptr_eq, h]; rfl

/-! ### the empty key -/
def Tr.setv : Tr → ByteArray → Nat → Tr
  | .nil, _, _ => .nil
  | .leaf a _ _, v, p => .leaf a v p
  | .pre a _ _ key next, v, p => .pre a v p key next
  | .tab a _ _ tb ch, v, p => .tab a v p tb ch
theorem Tr.setv_root (T : Tr) (v : ByteArray) (p : Nat) : (T.setv v p).root = T.root := by cases T <;> rfl
theorem Tr.setv_has (T : Tr) (v : ByteArray) (p b : Nat) : (T.setv v p).has b = T.has b := by cases T <;> rfl
def Tr.prio : Tr → Nat
  | .nil => 0
  | .leaf _ _ p => p
  | .pre _ _ p _ _ => p
  | .tab _ _ p _ _ => p
theorem get_prio {m : UInt8 → Nat} {T : Tr} : (T.get m []).2 = T.prio := by cases T <;> simp [Tr.get, Tr.prio]
theorem setv_get {m : UInt8 → Nat} {T : Tr} {a : Nat} (h : T.root = some a) (h0 : T.prio = 0) (val : ByteArray) (pr : Nat) : (T.setv val pr).get m = upd (T.get m) [] val pr := by
  cases T with
  | nil => cases h
  | leaf a v p => obtain rfl : p = 0 := h0; exact upd_root_leaf a v val pr
  | pre a v p key n => obtain rfl : p = 0 := h0; exact upd_root_pre a v val key n pr
  | tab a v p tb ch => obtain rfl : p = 0 := h0; exact upd_root_tab a tb v val ch pr
theorem Lies.node {w : World} {m : UInt8 → Nat} {N base : Nat} {T : Tr} {a : Nat} (h : Lies w m N base T) (hr : T.root = some a) : ∃ v pref nx tbl, NodeAt w a v T.prio pref nx tbl := by
  cases T with
  | nil => cases hr
  | leaf b v p => cases hr; exact ⟨_, _, _, _, h.2⟩
  | pre b v p key n => cases hr; exact ⟨_, _, _, _, h.2.1⟩
  | tab b v p tb ch => cases hr; exact ⟨_, _, _, _, h.2.1⟩
theorem Lies.setv {w : World} {m : UInt8 → Nat} {N base : Nat} {T : Tr} {a : Nat} (h : Lies w m N base T) (hr : T.root = some a) (val : ByteArray) (pr : Nat) :
    Lies ((w.setCell ⟨a, 0, none⟩ (.string val)).setCell ⟨a, 1, none⟩ (.int .i64 pr)) m N base (T.setv val pr) := by
  have hz : w.heap.size ≤ ((w.setCell ⟨a, 0, none⟩ (.string val)).setCell ⟨a, 1, none⟩ (.int .i64 pr)).heap.size := by simp
  have ho : ∀ b, b ≠ a → ((w.setCell ⟨a, 0, none⟩ (.string val)).setCell ⟨a, 1, none⟩ (.int .i64 pr)).heap[b]? = w.heap[b]? := fun b hb => (Below.heap_setCell _ _ _ _ hb).trans (Below.heap_setCell _ _ _ _ hb)
  cases T with
  | nil => cases hr
  | leaf b v p => cases hr; exact ⟨h.1, (h.2.set0 val).set1 pr⟩
  | pre b v p key n =>
    cases hr
    obtain ⟨h1, h2, h3, h4, h5, h6, h7⟩ := h
    exact ⟨h1, (h2.set0 val).set1 pr, h3, h4, h5, h6, h7.same hz (fun c hc => ho c (fun e => h6 (e ▸ hc)))⟩
  | tab b v p tb ch =>
    cases hr
    obtain ⟨h1, h2, h3, h4, h5, h6, h7, h8, h9, h10, h11⟩ := h
    exact ⟨h1, (h2.set0 val).set1 pr, h3, by simpa using h4, h5, fun i hi => (World.cell?_of_block (w := w) (ho tb h5)).trans (h6 i hi), fun o => (World.frozen?_of_block (w := w) (ho tb h5)).trans (h7 o), h8, h9, h10, fun i => (h11 i).same hz (fun c hc => ho c (fun e => (h9 i).1 (e ▸ hc)))⟩
theorem Wr.setv {w : World} {m : UInt8 → Nat} {N base : Nat} {T : Tr} {a : Nat} (h : Lies w m N base T) (hr : T.root = some a) (val : ByteArray) (pr : Nat) :
    Wr w ((w.setCell ⟨a, 0, none⟩ (.string val)).setCell ⟨a, 1, none⟩ (.int .i64 pr)) m N base T (T.setv val pr) where
  lies := h.setv hr val pr
  root := Tr.setv_root T val pr
  sub := fun b hb => by rw [Tr.setv_has] at hb; exact .inl hb
  kept := fun b hb hn => by
    have : b ≠ a := fun e => hn (e ▸ Tr.has_root hr)
    exact (Below.heap_setCell _ _ _ _ this).trans (Below.heap_setCell _ _ _ _ this)
  far := fun x hx o ho => by rw [World.cell?_setCell_other _ _ _ _ (fun e => by have h2 := congrArg Addr.off e; simp at h2; omega), World.cell?_setCell_other _ _ _ _ (fun e => by have h2 := congrArg Addr.off e; simp at h2; omega)]
  size := by simp
  os := rfl
  tape := rfl
  output := rfl
theorem Wr.refl {w : World} {m : UInt8 → Nat} {N base : Nat} {T : Tr} (h : Lies w m N base T) : Wr w w m N base T T := ⟨h, rfl, fun _ hb => .inl hb, fun _ _ _ => rfl, fun _ _ _ _ => rfl, Nat.le_refl _, rfl, rfl, rfl⟩

def Tr.isTab : Tr → Bool
  | .tab _ _ _ _ _ => true
  | _ => false
theorem Tr.setv_isTab (T : Tr) (v : ByteArray) (p : Nat) : (T.setv v p).isTab = T.isTab := by cases T <;> rfl
/-- What is left of a call of add. -/
def Added (w : World) (m : UInt8 → Nat) (N base : Nat) (T : Tr) (key val : ByteArray) (pr : Nat) (w' : World) : Prop := ∃ T', Wr w w' m N base T T' ∧ T'.get m = upd (T.get m) key.data.toList val pr ∧ (T.isTab = true → T'.isTab = true)

theorem add_empty {w : World} {m : UInt8 → Nat} {N base : Nat} {T : Tr} {a : Nat} (h : Lies w m N base T) (hr : T.root = some a) (val : ByteArray) (pr g : Nat) : AddAt (at0 a) ByteArray.empty val pr g w (Added w m N base T ByteArray.empty val pr) := by
  obtain ⟨v, pref, nx, tbl, hN⟩ := h.node hr
  cases hp : T.prio with
  | zero =>
    rw [hp] at hN
    exact (add_empty_zero a g v val pref pr nx tbl w hN).mono fun e w' ⟨he, hw⟩ => ⟨he, by rw [hw]; exact ⟨_, Wr.setv h hr val pr, setv_get hr hp val pr, fun e => (Tr.setv_isTab T val pr).trans e⟩⟩
  | succ q =>
    rw [hp] at hN
    exact (add_empty_some a g v val pref q pr nx tbl w hN).mono fun e w' ⟨he, hw⟩ => ⟨he, by rw [hw]; exact ⟨T, Wr.refl h, upd_none val pr (by show (T.get m []).2 ≠ 0; rw [get_prio, hp]; simp), id⟩⟩
end Go.Proofs.Ytnigbgablginnaa

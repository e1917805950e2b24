/- The trie of a generic replacer: the plain tree, what it holds at a key, how it lies in memory. No program in sight. -/
import Derived.Test.YtnigbgablginnaaRp
import Derived.Below
import Derived.Lib.Hide
import Derived.WalkKit
set_option linter.unusedVariables false
namespace Go.Proofs.Ytnigbgablginnaa
open Go.Lib Go.RowKit

inductive Tr where
  | nil
  | leaf (a : Nat) (v : ByteArray) (p : Nat)
  | pre (a : Nat) (v : ByteArray) (p : Nat) (key : ByteArray) (next : Tr)
  | tab (a : Nat) (v : ByteArray) (p : Nat) (tb : Nat) (ch : Nat → Tr)

namespace Tr
def ptr : Tr → Value
  | nil => .pointer none
  | leaf a _ _ => .pointer (some ⟨a, 0, none⟩)
  | pre a _ _ _ _ => .pointer (some ⟨a, 0, none⟩)
  | tab a _ _ _ _ => .pointer (some ⟨a, 0, none⟩)
def root : Tr → Option Nat
  | nil => none
  | leaf a _ _ => some a
  | pre a _ _ _ _ => some a
  | tab a _ _ _ _ => some a
theorem ptr_eq (T : Tr) : T.ptr = .pointer (T.root.map fun a => ⟨a, 0, none⟩) := by cases T <;> rfl
/-- What stands at a key: the value and its priority (0: none). -/
def get (m : UInt8 → Nat) (T : Tr) : Bs → ByteArray × Nat :=
  match T with
  | nil => fun _ => (ByteArray.empty, 0)
  | leaf _ v p => fun k => match k with | [] => (v, p) | _ :: _ => (ByteArray.empty, 0)
  | pre _ v p key next => fun k => match k with | [] => (v, p) | _ :: _ => if key.data.toList.isPrefixOf k then next.get m (k.drop key.size) else (ByteArray.empty, 0)
  | tab _ v p _ ch => fun k => match k with | [] => (v, p) | c :: r => (ch (m c)).get m r
theorem get_nil (m : UInt8 → Nat) (k : Bs) : Tr.nil.get m k = (ByteArray.empty, 0) := by simp [Tr.get]
theorem get_leaf_nil (m : UInt8 → Nat) (a : Nat) (v : ByteArray) (p : Nat) : (Tr.leaf a v p).get m [] = (v, p) := by simp [Tr.get]
theorem get_leaf_cons (m : UInt8 → Nat) (a : Nat) (v : ByteArray) (p : Nat) (c : UInt8) (r : Bs) : (Tr.leaf a v p).get m (c :: r) = (ByteArray.empty, 0) := by simp [Tr.get]
theorem get_pre_nil (m : UInt8 → Nat) (a : Nat) (v : ByteArray) (p : Nat) (key : ByteArray) (n : Tr) : (Tr.pre a v p key n).get m [] = (v, p) := by simp [Tr.get]
theorem get_pre_cons (m : UInt8 → Nat) (a : Nat) (v : ByteArray) (p : Nat) (key : ByteArray) (n : Tr) (c : UInt8) (r : Bs) : (Tr.pre a v p key n).get m (c :: r) = if key.data.toList.isPrefixOf (c :: r) then n.get m ((c :: r).drop key.size) else (ByteArray.empty, 0) := by simp [Tr.get]
theorem get_tab_nil (m : UInt8 → Nat) (a : Nat) (v : ByteArray) (p tb : Nat) (ch : Nat → Tr) : (Tr.tab a v p tb ch).get m [] = (v, p) := by simp [Tr.get]
theorem get_tab_cons (m : UInt8 → Nat) (a : Nat) (v : ByteArray) (p tb : Nat) (ch : Nat → Tr) (c : UInt8) (r : Bs) : (Tr.tab a v p tb ch).get m (c :: r) = (ch (m c)).get m r := by simp [Tr.get]
/-- The blocks of a tree. -/
def has : Tr → Nat → Prop
  | nil, _ => False
  | leaf a _ _, b => b = a
  | pre a _ _ _ next, b => b = a ∨ next.has b
  | tab a _ _ tb ch, b => b = a ∨ b = tb ∨ ∃ i, (ch i).has b
theorem has_root {T : Tr} {a : Nat} (h : T.root = some a) : T.has a := by
  cases T with
  | nil => cases h
  | leaf b _ _ => cases h; rfl
  | pre b _ _ _ _ => cases h; exact .inl rfl
  | tab b _ _ _ _ => cases h; exact .inl rfl
end Tr

/-- A key's value laid where none stands. -/
def upd (f : Bs → ByteArray × Nat) (k : Bs) (val : ByteArray) (pr : Nat) : Bs → ByteArray × Nat := fun x => if x = k ∧ (f k).2 = 0 then (val, pr) else f x

section plain
variable {m : UInt8 → Nat}
theorem upd_root_leaf (a : Nat) (v val : ByteArray) (pr : Nat) : (Tr.leaf a val pr).get m = upd ((Tr.leaf a v 0).get m) [] val pr := by
  funext x
  cases x with
  | nil => simp [upd, Tr.get]
  | cons c r => simp [upd, Tr.get]
theorem upd_root_pre (a : Nat) (v val key : ByteArray) (n : Tr) (pr : Nat) : (Tr.pre a val pr key n).get m = upd ((Tr.pre a v 0 key n).get m) [] val pr := by
  funext x
  cases x with
  | nil => simp [upd, Tr.get]
  | cons c r => simp [upd, Tr.get]
theorem upd_root_tab (a tb : Nat) (v val : ByteArray) (ch : Nat → Tr) (pr : Nat) : (Tr.tab a val pr tb ch).get m = upd ((Tr.tab a v 0 tb ch).get m) [] val pr := by
  funext x
  cases x with
  | nil => simp [upd, Tr.get]
  | cons c r => simp [upd, Tr.get]
theorem upd_none {f : Bs → ByteArray × Nat} {k : Bs} (val : ByteArray) (pr : Nat) (h : (f k).2 ≠ 0) : f = upd f k val pr := by
  funext x
  simp [upd, h]
theorem isPre_app (k x : Bs) : k.isPrefixOf (k ++ x) = true := List.isPrefixOf_iff_prefix.2 ⟨x, rfl⟩
theorem get_pre_app (a : Nat) (v : ByteArray) (p : Nat) (key : ByteArray) (n : Tr) (h : 0 < key.size) (x : Bs) : (Tr.pre a v p key n).get m (key.data.toList ++ x) = n.get m x := by
  have hl : key.data.toList.length = key.size := by simp
  match hk : key.data.toList with
  | [] => rw [hk] at hl; simp at hl; omega
  | c :: r =>
    show (if key.data.toList.isPrefixOf (c :: r ++ x) then n.get m ((c :: r ++ x).drop key.size) else _) = _
    rw [hk, isPre_app, if_pos rfl]
    congr 1
    rw [← hl, hk, List.drop_left]
theorem get_pre_no (a : Nat) (v : ByteArray) (p : Nat) (key : ByteArray) (n : Tr) (x : Bs) (h0 : x ≠ []) (h : ¬ key.data.toList <+: x) : (Tr.pre a v p key n).get m x = (ByteArray.empty, 0) := by
  match x, h0 with
  | c :: r, _ =>
    show (if key.data.toList.isPrefixOf (c :: r) then _ else _) = _
    rw [if_neg (fun e => h (List.isPrefixOf_iff_prefix.1 e))]
/-- Behind a prefix. -/
theorem upd_pre (a : Nat) (v : ByteArray) (p : Nat) (key : ByteArray) (n n' : Tr) (h : 0 < key.size) (k : Bs) (val : ByteArray) (pr : Nat) (hn : n'.get m = upd (n.get m) k val pr) :
    (Tr.pre a v p key n').get m = upd ((Tr.pre a v p key n).get m) (key.data.toList ++ k) val pr := by
  have hl : key.data.toList.length = key.size := by simp
  have hne : key.data.toList ≠ [] := by intro e; rw [e] at hl; simp at hl; omega
  funext x
  unfold upd
  rw [get_pre_app a v p key n h]
  by_cases hx : key.data.toList <+: x
  · obtain ⟨y, rfl⟩ := hx
    rw [get_pre_app a v p key n' h, get_pre_app a v p key n h, hn]
    unfold upd
    simp only [List.append_cancel_left_eq]
  · have h2 : ¬ (x = key.data.toList ++ k ∧ (n.get m k).2 = 0) := fun e => hx ⟨k, e.1.symm⟩
    rw [if_neg h2]
    by_cases h0 : x = []
    · subst h0; rfl
    · rw [get_pre_no _ _ _ _ _ _ h0 hx, get_pre_no _ _ _ _ _ _ h0 hx]
/-- A leaf gets a key. -/
theorem upd_leaf (a b : Nat) (v : ByteArray) (p : Nat) (key val : ByteArray) (pr : Nat) (h : 0 < key.size) (T : Tr) (hT : T.get m = upd ((Tr.leaf b ByteArray.empty 0).get m) [] val pr) :
    (Tr.pre a v p key T).get m = upd ((Tr.leaf a v p).get m) key.data.toList val pr := by
  have hl : key.data.toList.length = key.size := by simp
  have hne : key.data.toList ≠ [] := by intro e; rw [e] at hl; simp at hl; omega
  have hz : ((Tr.leaf a v p).get m key.data.toList).2 = 0 := by
    match hk : key.data.toList, hne with
    | c :: r, _ => rw [Tr.get_leaf_cons]
  funext x
  unfold upd
  by_cases hx : key.data.toList <+: x
  · obtain ⟨y, rfl⟩ := hx
    rw [get_pre_app a v p key T h, hT]
    unfold upd
    cases y with
    | nil => rw [if_pos ⟨rfl, Tr.get_leaf_nil m b ByteArray.empty 0 ▸ rfl⟩, List.append_nil, if_pos ⟨rfl, hz⟩]
    | cons c r =>
      rw [if_neg (fun e => by cases e.1), if_neg (fun e => by have := congrArg List.length e.1; simp at this), Tr.get_leaf_cons]
      match hk : key.data.toList, hne with
      | c' :: r', _ => exact (Tr.get_leaf_cons m a v p c' (r' ++ c :: r)).symm
  · have h2 : ¬ (x = key.data.toList ∧ ((Tr.leaf a v p).get m key.data.toList).2 = 0) := fun e => hx ⟨[], by simpa using e.1.symm⟩
    rw [if_neg h2]
    cases x with
    | nil => rfl
    | cons c r => rw [get_pre_no _ _ _ _ _ _ (by simp) hx]; rfl
/-- A child gets a key. -/
theorem upd_tab (a tb : Nat) (v : ByteArray) (p : Nat) (ch : Nat → Tr) (c : UInt8) (T' : Tr) (k : Bs) (val : ByteArray) (pr : Nat) (inj : ∀ x, m x = m c → x = c) (hT : T'.get m = upd ((ch (m c)).get m) k val pr) :
    (Tr.tab a v p tb (fun i => if i = m c then T' else ch i)).get m = upd ((Tr.tab a v p tb ch).get m) (c :: k) val pr := by
  funext x
  unfold upd
  cases x with
  | nil => simp [Tr.get]
  | cons d r =>
    rw [Tr.get_tab_cons, Tr.get_tab_cons, Tr.get_tab_cons]
    by_cases hd : d = c
    · subst hd
      rw [if_pos rfl, hT]
      unfold upd
      simp
    · rw [if_neg (fun e => hd (inj d e)), if_neg (fun e => hd (by simpa using congrArg List.head? e.1))]
/-- A prefix is split. -/
theorem split_pre (a b : Nat) (v : ByteArray) (p : Nat) (key k1 k2 : ByteArray) (n : Tr) (h1 : 0 < k1.size) (h2 : 0 < k2.size) (hk : key.data.toList = k1.data.toList ++ k2.data.toList) :
    (Tr.pre a v p key n).get m = (Tr.pre a v p k1 (Tr.pre b ByteArray.empty 0 k2 n)).get m := by
  have hl : key.data.toList.length = key.size := by simp
  have hl1 : k1.data.toList.length = k1.size := by simp
  have hl2 : k2.data.toList.length = k2.size := by simp
  have h0 : 0 < key.size := by rw [← hl, hk, List.length_append]; omega
  funext x
  cases x with
  | nil => rfl
  | cons c r =>
    by_cases hx : key.data.toList <+: (c :: r)
    · obtain ⟨y, hy⟩ := hx
      rw [← hy, get_pre_app _ _ _ _ _ h0, hk, List.append_assoc, get_pre_app _ _ _ _ _ h1, get_pre_app _ _ _ _ _ h2]
    · rw [get_pre_no _ _ _ _ _ _ (by simp) hx]
      by_cases hx1 : k1.data.toList <+: (c :: r)
      · obtain ⟨y, hy⟩ := hx1
        rw [← hy, get_pre_app _ _ _ _ _ h1]
        by_cases hy0 : y = []
        · subst hy0; rfl
        · rw [get_pre_no _ _ _ _ _ _ hy0]
          rintro ⟨z, hz⟩
          exact hx ⟨z, by rw [hk, ← hy, ← hz, List.append_assoc]⟩
      · rw [get_pre_no _ _ _ _ _ _ (by simp) hx1]
/-- A prefix becomes a table. -/
theorem tab_pre (a tb : Nat) (v : ByteArray) (p : Nat) (key : ByteArray) (c : UInt8) (r : Bs) (n X : Tr) (hk : key.data.toList = c :: r) (inj : ∀ x, m x = m c → x = c) (hX : ∀ x, X.get m x = if r <+: x then n.get m (x.drop r.length) else (ByteArray.empty, 0)) :
    (Tr.pre a v p key n).get m = (Tr.tab a v p tb (fun i => if i = m c then X else Tr.nil)).get m := by
  have hl : key.data.toList.length = key.size := by simp
  have hs : key.size = r.length + 1 := by rw [← hl, hk]; rfl
  funext x
  cases x with
  | nil => rw [Tr.get_pre_nil, Tr.get_tab_nil]
  | cons d y =>
    rw [Tr.get_pre_cons, Tr.get_tab_cons]
    by_cases hd : d = c
    · subst hd
      rw [if_pos rfl, hX, hk, hs]
      by_cases hy : r <+: y
      · rw [if_pos hy, if_pos (by rw [List.isPrefixOf_iff_prefix]; exact List.cons_prefix_cons.2 ⟨rfl, hy⟩)]; rfl
      · rw [if_neg hy, if_neg (by rw [List.isPrefixOf_iff_prefix]; exact fun e => hy (List.cons_prefix_cons.1 e).2)]
    · rw [if_neg (fun e => hd (inj d e)), if_neg (by rw [List.isPrefixOf_iff_prefix, hk]; exact fun e => hd (List.cons_prefix_cons.1 e).1.symm)]
      rfl
theorem tab_pre_one (n : Tr) (x : Bs) : n.get m x = if ([] : Bs) <+: x then n.get m (x.drop ([] : Bs).length) else (ByteArray.empty, 0) := by simp
theorem tab_pre_more (b : Nat) (key : ByteArray) (n : Tr) (h : 0 < key.size) (x : Bs) : (Tr.pre b ByteArray.empty 0 key n).get m x = if key.data.toList <+: x then n.get m (x.drop key.data.toList.length) else (ByteArray.empty, 0) := by
  by_cases hx : key.data.toList <+: x
  · obtain ⟨y, rfl⟩ := hx
    rw [get_pre_app _ _ _ _ _ h, if_pos ⟨y, rfl⟩, List.drop_left]
  · rw [if_neg hx]
    by_cases h0 : x = []
    · subst h0; rfl
    · rw [get_pre_no _ _ _ _ _ _ h0 hx]
end plain

/-! ### in memory -/
/-- A node's five cells. -/
structure NodeAt (w : World) (a : Nat) (v : ByteArray) (p : Nat) (key : ByteArray) (next tbl : Value) : Prop where
  c0 : w.cell? ⟨a, 0, none⟩ = some (.string v)
  c1 : w.cell? ⟨a, 1, none⟩ = some (.int .i64 p)
  c2 : w.cell? ⟨a, 2, none⟩ = some (.string key)
  c3 : w.cell? ⟨a, 3, none⟩ = some next
  c4 : w.cell? ⟨a, 4, none⟩ = some tbl
  nf : ∀ o, w.frozen? ⟨a, o, none⟩ = false
theorem NodeAt.lt {w : World} {a : Nat} {v : ByteArray} {p : Nat} {key : ByteArray} {next tbl : Value} (h : NodeAt w a v p key next tbl) : a < w.heap.size := World.block_lt_of_cell? _ _ h.c0
theorem NodeAt.same {w w' : World} {a : Nat} {v : ByteArray} {p : Nat} {key : ByteArray} {next tbl : Value} (h : NodeAt w a v p key next tbl) (e : w'.heap[a]? = w.heap[a]?) : NodeAt w' a v p key next tbl :=
  ⟨(World.cell?_of_block (w := w) e).trans h.c0, (World.cell?_of_block (w := w) e).trans h.c1, (World.cell?_of_block (w := w) e).trans h.c2, (World.cell?_of_block (w := w) e).trans h.c3, (World.cell?_of_block (w := w) e).trans h.c4, fun o => (World.frozen?_of_block (w := w) e).trans (h.nf o)⟩

/-- The tree lies in memory: N is the tables' size, base the first block that may be written. -/
def Lies (w : World) (m : UInt8 → Nat) (N base : Nat) : Tr → Prop
  | .nil => True
  | .leaf a v p => base ≤ a ∧ NodeAt w a v p ByteArray.empty (.pointer none) (.slice none 0 0)
  | .pre a v p key next => base ≤ a ∧ NodeAt w a v p key next.ptr (.slice none 0 0) ∧ 0 < key.size ∧ (∀ c ∈ key.data.toList, m c < N) ∧ next ≠ .nil ∧ ¬ next.has a ∧ Lies w m N base next
  | .tab a v p tb ch => base ≤ a ∧ NodeAt w a v p ByteArray.empty (.pointer none) (.slice (some ⟨tb, 0, none⟩) N N) ∧ base ≤ tb ∧ tb < w.heap.size ∧ tb ≠ a ∧ (∀ i, i < N → w.cell? ⟨tb, i, none⟩ = some (ch i).ptr) ∧ (∀ o, w.frozen? ⟨tb, o, none⟩ = false) ∧
      (∀ i, N ≤ i → ch i = .nil) ∧ (∀ i, ¬ (ch i).has a ∧ ¬ (ch i).has tb) ∧ (∀ i j, i ≠ j → ∀ b, (ch i).has b → ¬ (ch j).has b) ∧ ∀ i, Lies w m N base (ch i)

theorem Lies.same {w w' : World} {m : UInt8 → Nat} {N base : Nat} (hz : w.heap.size ≤ w'.heap.size) : ∀ {T : Tr}, Lies w m N base T → (∀ b, T.has b → w'.heap[b]? = w.heap[b]?) → Lies w' m N base T
  | .nil, _, _ => trivial
  | .leaf a v p, h, e => ⟨h.1, h.2.same (e a rfl)⟩
  | .pre a v p key next, ⟨h1, h2, h3, h4, h5, h6, h7⟩, e => ⟨h1, h2.same (e a (.inl rfl)), h3, h4, h5, h6, h7.same hz (fun b hb => e b (.inr hb))⟩
  | .tab a v p tb ch, ⟨h1, h2, h3, h4, h5, h6, h7, h8, h9, h10, h11⟩, e =>
    ⟨h1, h2.same (e a (.inl rfl)), h3, Nat.lt_of_lt_of_le h4 hz, h5, fun i hi => (World.cell?_of_block (w := w) (e tb (.inr (.inl rfl)))).trans (h6 i hi), fun o => (World.frozen?_of_block (w := w) (e tb (.inr (.inl rfl)))).trans (h7 o), h8, h9, h10,
      fun i => (h11 i).same hz (fun b hb => e b (.inr (.inr ⟨i, hb⟩)))⟩
theorem Lies.lt {w : World} {m : UInt8 → Nat} {N base : Nat} : ∀ {T : Tr}, Lies w m N base T → ∀ b, T.has b → base ≤ b ∧ b < w.heap.size
  | .nil, _, b, hb => hb.elim
  | .leaf a v p, h, b, hb => by obtain rfl : b = a := hb; exact ⟨h.1, h.2.lt⟩
  | .pre a v p key next, ⟨h1, h2, h3, h4, h5, h6, h7⟩, b, hb => by
    rcases hb with rfl | hb
    · exact ⟨h1, h2.lt⟩
    · exact h7.lt b hb
  | .tab a v p tb ch, ⟨h1, h2, h3, h4, h5, h6, h7, h8, h9, h10, h11⟩, b, hb => by
    rcases hb with rfl | rfl | ⟨i, hb⟩
    · exact ⟨h1, h2.lt⟩
    · exact ⟨h3, h4⟩
    · exact (h11 i).lt b hb

/-- The replacer's own numbers behind its root: the tables' size and the mapping. -/
structure RepAt (w : World) (g N : Nat) (m : UInt8 → Nat) : Prop where
  size : w.cell? ⟨g, 5, none⟩ = some (.int .i64 N)
  map : ∀ c : UInt8, w.cell? ⟨g, 6 + c.toNat, none⟩ = some (.int .u8 (m c))
theorem RepAt.same {w w' : World} {g N : Nat} {m : UInt8 → Nat} (h : RepAt w g N m) (e : ∀ o, 5 ≤ o → w'.cell? ⟨g, o, none⟩ = w.cell? ⟨g, o, none⟩) : RepAt w' g N m :=
  ⟨(e 5 (Nat.le_refl _)).trans h.size, fun c => (e (6 + c.toNat) (by omega)).trans (h.map c)⟩

/-- What a call that writes into the tree leaves. -/
structure Wr (w w' : World) (m : UInt8 → Nat) (N base : Nat) (T T' : Tr) : Prop where
  lies : Lies w' m N base T'
  root : T'.root = T.root
  sub : ∀ b, T'.has b → T.has b ∨ w.heap.size ≤ b
  kept : ∀ b, b < w.heap.size → ¬ T.has b → w'.heap[b]? = w.heap[b]?
  far : ∀ a, T.root = some a → ∀ o, 5 ≤ o → w'.cell? ⟨a, o, none⟩ = w.cell? ⟨a, o, none⟩
  size : w.heap.size ≤ w'.heap.size
  os : w'.os = w.os
  tape : w'.tape = w.tape
  output : w'.output = w.output
theorem Wr.ptr {w w' : World} {m : UInt8 → Nat} {N base : Nat} {T T' : Tr} (h : Wr w w' m N base T T') : T'.ptr = T.ptr := by rw [Tr.ptr_eq, Tr.ptr_eq, h.root]
theorem Wr.below {w w' : World} {m : UInt8 → Nat} {N base : Nat} {T T' : Tr} (h : Wr w w' m N base T T') (hT : Lies w m N base T) (hb : base ≤ w.heap.size) : Below base w w' :=
  ⟨h.os, h.tape, h.output, h.size, fun k hk => h.kept k (Nat.lt_of_lt_of_le hk hb) (fun hh => by have := (hT.lt k hh).1; omega)⟩
theorem Wr.rep {w w' : World} {m : UInt8 → Nat} {N base g : Nat} {T T' : Tr} (h : Wr w w' m N base T T') (hg : ∀ b, T.has b → T.root ≠ some b → b ≠ g) (hgl : g < w.heap.size) (hr : RepAt w g N m) : RepAt w' g N m := by
  refine hr.same fun o ho => ?_
  by_cases hh : T.has g
  · by_cases hroot : T.root = some g
    · exact h.far g hroot o ho
    · exact absurd rfl (hg g hh hroot)
  · exact World.cell?_of_block (w := w) (h.kept g hgl hh)
end Go.Proofs.Ytnigbgablginnaa

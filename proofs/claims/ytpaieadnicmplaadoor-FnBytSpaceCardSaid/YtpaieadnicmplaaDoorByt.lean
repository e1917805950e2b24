/- []byte: conversions, slices.Clone, and the byte loops over []byte. -/
import Derived.Test.YtpaieadnicmplaaDoorBas
import Derived.Lib.SlBytesRow
import Derived.Lib.ConvBytes
import Derived.Lib.SmallJoins
import Derived.Lib.SliceRun
import Derived.Deep.LoopGhost
namespace Go.Proofs.YtpaieadnicmplaaDoor
open Go.RowKit Go.Lib

theorem bytes_below {w w' : World} {b o B : Nat} {s : ByteArray} (h : Lib.Bytes w b o s) (hb : Below B w w') (hlt : b < B) : Lib.Bytes w' b o s := fun i hi => (hb.cell (p := ⟨b, o + i, none⟩) hlt).trans (h i hi)

/-- What '[]byte(s)' leaves. -/
structure Conved (s : ByteArray) (w : World) (c : Nat) (W : World) : Prop where
  cap : s.size ≤ c
  size : W.heap.size = w.heap.size + 1
  bytes : Lib.Bytes W w.heap.size 0 s
  below : Below w.heap.size w W

theorem cvB (w : World) (s : ByteArray) : ∃ c W, (convert 9 23 (.string s)).run Tryd.prog w = .ok (.slice (some ⟨w.heap.size, 0, none⟩) s.size c) W ∧ Conved s w c W := by
  refine ⟨_, _, Lib.run_convert_string_bytes w 9 23 5 s Tryd.underlying9 Tryd.underlying23 Tryd.underlying5, grownCap_ge _ _ _ _, bytesWorld_size _ _ _, fun i hi => ?_, Joins.below_bytesWorld _ _ _ _ (Nat.le_refl _)⟩
  rw [Nat.zero_add, bytesWorld_cell w 5 s i hi]
  have e : s.data.toList.getD i 0 = s[i] := by
    simp only [List.getD]
    rw [byte_at s i hi]; rfl
  rw [e]

theorem u8_info : (Tryd.prog.info? 5).map (fun i => (i.zero, i.size, i.bytes)) = some (some (.int .u8 0), 1, 1) := by kernel_rfl

/-- What slices.Clone leaves. -/
def ClonedB (s : ByteArray) (w : World) (e : Ending) (w' : World) : Prop :=
  ∃ g c, e = .returned (.slice (some ⟨g, 0, none⟩) s.size c) ∧ w.heap.size ≤ g ∧ g < w'.heap.size ∧ s.size ≤ c ∧ Lib.Bytes w' g 0 s ∧ Below w.heap.size w w'

theorem own_clone {w w' : World} {v : Value} {s : ByteArray} (hown : w'.ownsRow w.heap.size 5 1 v s.size (s.data.toList.map fun x => Value.int .u8 (x.toNat : Int))) (hn : v ≠ .slice none 0 0) (hb : Below w.heap.size w w') :
    ClonedB s w (.returned v) w' := by
  have hcells := fun g (hg : v.ownBlock = some g) => hown.cells hg
  rcases hown.2 with ⟨rfl, _⟩ | ⟨g, cap, cur, rfl, hg, hh, hc, _⟩
  · exact absurd rfl hn
  · refine ⟨g, cap, rfl, hg, ?_, hc, fun i hi => ?_, hb⟩
    · rcases Nat.lt_or_ge g w'.heap.size with h | h
      · exact h
      · rw [Array.getElem?_eq_none h] at hh; cases hh
    · have := hcells g rfl i (.int .u8 (s[i].toNat : Int)) (by rw [List.getElem?_map, byte_at s i hi]; rfl)
      rw [Addr.add_lit] at this
      exact this

set_option maxHeartbeats 2000000 in
set_option maxRecDepth 100000 in
theorem CloneB (s : ByteArray) (b o c : Nat) (w : World) (hs : s.size < 4294967281) (hB : Hid (Lib.Bytes w b o s)) :
    Calls Tryd.prog 22 #[.slice (some ⟨b, o, none⟩) s.size c] w (ClonedB s w) := by
  obtain ⟨i0, hi, hz0, hz1, hz2⟩ := info_parts u8_info
  have q : ∀ (w : World) (a : Option Addr) (n c n' c' : Nat), (binOp .eql 23 (.slice a n c) (.slice none n' c')).run Tryd.prog w = .ok (.bool a.isNone) w := fun w a n c n' c' => Lib.run_eql_slice_nil w _ _ a n c n' c' Tryd.underlying23
  obtain ⟨xs, hx⟩ : ∃ xs, xs = s.data.toList.map fun x => Value.int .u8 (x.toNat : Int) := ⟨_, rfl⟩
  have hxl : Hid (xs.length = s.size) := by show _ = _; rw [hx]; simp
  have hxc : Hid (∀ j u, xs[j]? = some u → w.cell? ⟨b, o + j, none⟩ = some u) := by
    intro j u hj
    have hjl : j < s.size := by
      have := (List.getElem?_eq_some_iff.1 hj).1
      rw [hxl.out] at this; exact this
    rw [hB.out j hjl, ← hj, hx, List.getElem?_map, byte_at s j hjl]; rfl
  have hx1 : Hid (∀ u ∈ xs, u.oneCell' = true) := by
    intro u hu
    rw [hx] at hu
    obtain ⟨x, _, rfl⟩ := List.mem_map.1 hu
    rfl
  have HX := Lib.hid hx
  clear hx hB
  go_enter Tryd.func22, Tryd.ntmps22
  go_wp2_with (at_builtin; refine wpList_append_own _ rfl _ _ 23 rfl w.heap.size 5 i0 (.int .u8 0) 1 1 Tryd.underlying23 hi hz0 hz1 hz2 rfl (by decide) _ _ _ rfl (World.ownsRow_made w #[] 0 (Nat.le_refl _) (Nat.zero_le _) rfl) ⟨b, o, none⟩ s.size c xs rfl ?qc1 ?qc2 ?qc3 ?qc4 ?qc5 ?qc6 ?_)
  case qc1 => rw [hxl.out]; omega
  case qc2 =>
    intro j u hj
    rw [Addr.add_lit]
    exact Lib.cell?_alloc_some _ (hxc.out j u hj)
  case qc3 => exact hx1.out
  case qc4 => unfold maxLen; omega
  case qc5 => omega
  case qc6 => simp
  intro v' w1 hown hgrow hnil
  go_wp2
  go_ret
  refine own_clone (by rw [← HX.out]; simpa using hown) ?_ ?_
  · first | exact hnil | (intro e; exact absurd (hnil.1 e).1 (by simp))
  · exact ((Below.refl _ w).alloc (Nat.le_refl _) _).grown hgrow (by simp) (by intro k hk; simp [Value.ownBlock] at hk; omega)

/-! ### '[]byte("..")' of a constant -/
def cellsB (l : List UInt8) : Array Value := (l.map fun x => Value.int .u8 (x.toNat : Int)).toArray

theorem cvC (w : World) (C : Array Value) (n c g : Nat) (hg : g = w.heap.size) :
    (convert 23 23 (.slice (some ⟨g, 0, none⟩) n c)).run Tryd.prog (w.alloc (.cells C 5)) = .ok (.slice (some ⟨g, 0, none⟩) n c) (w.alloc (.cells C 5 (C.size, C.size + 1))) :=
  Joins.run_convert_bytes_const_at w 23 5 C n c g hg Tryd.underlying23 Tryd.underlying5

theorem bytes_const (w : World) (s : ByteArray) (fr : Nat × Nat) (C : Array Value) (hC : C = cellsB s.data.toList) : Lib.Bytes (w.alloc (.cells C 5 fr)) w.heap.size 0 s := by
  subst hC
  intro i hi
  rw [Nat.zero_add, World.cell?_alloc_mark]
  unfold cellsB
  rw [List.getElem?_toArray, List.getElem?_map, byte_at s i hi]; rfl
theorem bytes_alloc {w : World} {b o : Nat} {s : ByteArray} (h : Lib.Bytes w b o s) (hb : b < w.heap.size) (ob : Obj) : Lib.Bytes (w.alloc ob) b o s :=
  bytes_below (B := w.heap.size) h ((Below.refl _ _).alloc (Nat.le_refl _) _) hb

theorem one_const (w : World) (s : ByteArray) (C : Array Value) (fr : Nat × Nat) (hC : C = cellsB s.data.toList) :
    ∃ W, W = w.alloc (.cells C 5 fr) ∧ Hid (Lib.Bytes W w.heap.size 0 s) ∧ w.heap.size < W.heap.size ∧ Below w.heap.size w W :=
  ⟨_, rfl, bytes_const _ _ _ _ hC, by simp, (Below.refl _ _).alloc (Nat.le_refl _) _⟩
theorem two_consts (w : World) (s t : ByteArray) (C D : Array Value) (fr fr' : Nat × Nat) (hC : C = cellsB s.data.toList) (hD : D = cellsB t.data.toList) :
    ∃ W, W = (w.alloc (.cells C 5 fr)).alloc (.cells D 5 fr') ∧ Hid (Lib.Bytes W w.heap.size 0 s) ∧ Hid (Lib.Bytes W (w.heap.size + 1) 0 t) ∧ w.heap.size + 1 < W.heap.size ∧ Below w.heap.size w W := by
  refine ⟨_, rfl, bytes_alloc (bytes_const _ _ _ _ hC) (by simp) _, ?_, by simp, ((Below.refl _ _).alloc (Nat.le_refl _) _).alloc (by simp) _⟩
  have := bytes_const (w.alloc (.cells C 5 fr)) t fr' D hD
  rw [World.size_alloc] at this
  exact this
end Go.Proofs.YtpaieadnicmplaaDoor

/- (*trieNode).add at the empty key, and at a leaf: the walks. -/
import Derived.Test.YtnigbgablginnaaTriL
import Derived.Test.YtnigbgablginnaaEmp
import Derived.Test.YtnigbgablginnaaFinW
import Derived.Deep.QuietTactic
import Derived.BigQuiet
import Derived.Deep.RegionWith
set_option linter.unusedVariables false
namespace Go.Proofs.Ytnigbgablginnaa
open Go.RowKit Go.Lib

/-- A place of a pointer. -/
abbrev at0 (a : Nat) : Value := .pointer (some ⟨a, 0, none⟩)
def RetW (f : World) (e : Ending) (w' : World) : Prop := e = .returned (.tuple #[]) ∧ w' = f

set_option maxRecDepth 100000 in
set_option maxHeartbeats 1000000 in
theorem add_empty_zero (a g : Nat) (v val pref : ByteArray) (pr : Int) (nx tbl : Value) (w : World) (h : NodeAt w a v 0 pref nx tbl) :
    Calls Try.prog 56 #[at0 a, .string ByteArray.empty, .string val, .int .i64 pr, at0 g] w (RetW ((w.setCell ⟨a, 0, none⟩ (.string val)).setCell ⟨a, 1, none⟩ (.int .i64 pr))) := by
  have c0 := h.c0
  have c1 := h.c1
  have f0 := h.nf 0
  have f1 := h.nf 1
  clear h
  go_enter Try.func56, Try.ntmps56
  go_wp2_with fail
  go_end0
  exact ⟨rfl, rfl⟩
set_option maxRecDepth 100000 in
set_option maxHeartbeats 1000000 in
theorem add_empty_some (a g : Nat) (v val pref : ByteArray) (p : Nat) (pr : Int) (nx tbl : Value) (w : World) (h : NodeAt w a v (p + 1) pref nx tbl) :
    Calls Try.prog 56 #[at0 a, .string ByteArray.empty, .string val, .int .i64 pr, at0 g] w (RetW w) := by
  have c1 := h.c1
  clear h
  have hb : (((p + 1 : Nat) : Int) == 0) = false := by rw [beq_eq_false_iff_ne]; omega
  go_enter Try.func56, Try.ntmps56
  go_wp2_with fail
  go_end0
  exact ⟨rfl, rfl⟩

def nodeCells (v : ByteArray) (p : Int) (pref : ByteArray) (nx tbl : Value) : Array Value := #[.string v, .int .i64 p, .string pref, nx, tbl]
def RetS (R : World → Prop) (e : Ending) (w' : World) : Prop := e = .returned (.tuple #[]) ∧ R w'
abbrev AddAt (n : Value) (key val : ByteArray) (pr : Nat) (g : Nat) (w : World) (R : World → Prop) : Prop :=
  Calls Try.prog 56 #[n, .string key, .string val, .int .i64 pr, at0 g] w (RetS R)
set_option maxRecDepth 100000 in
set_option maxHeartbeats 1000000 in
theorem add_leaf (a g : Nat) (v val key : ByteArray) (p pr : Nat) (w : World) (R : World → Prop) (hk : 1 ≤ key.size) (h : NodeAt w a v p ByteArray.empty (.pointer none) (.slice none 0 0))
    (HC : AddAt (at0 w.heap.size) ByteArray.empty val pr g (((w.setCell ⟨a, 2, none⟩ (.string key)).setCell ⟨a, 3, none⟩ (at0 w.heap.size)).alloc (.cells (nodeCells ByteArray.empty 0 ByteArray.empty (.pointer none) (.slice none 0 0)) 77)) R) :
    AddAt (at0 a) key val pr g w R := by
  have qT := fun (w : World) (a : Option Addr) (n c n' c' : Nat) => run_neq_slice_nil_any w 75 _ a n c n' c' Try.underlying75
  have c2 := h.c2
  have c3 := h.c3
  have c4 := h.c4
  have f2 := h.nf 2
  have f3 := h.nf 3
  have hal := h.lt
  have hne := neB hk
  have HCh := Lib.hid HC
  clear h HC
  go_enter Try.func56, Try.ntmps56
  go_wp2_with fail
  refine HCh.out.mono ?_
  rintro e w' ⟨rfl, hR⟩
  go_wp2_with fail
  go_end0
  exact ⟨rfl, hR⟩

/-- The common part of two texts. -/
def Lcp (s t : ByteArray) (L : Nat) : Prop := L ≤ s.size ∧ L ≤ t.size ∧ (∀ j, j < L → bt s j = bt t j) ∧ (L < s.size → L < t.size → bt s L ≠ bt t L)

set_option maxRecDepth 100000 in
set_option maxHeartbeats 1000000 in
theorem add_pre_all (a g : Nat) (v val key pref : ByteArray) (nx : Value) (p pr : Nat) (w : World) (R : World → Prop) (hks : key.size ≤ 140737488355328) (hp : 1 ≤ pref.size) (hk : 1 ≤ key.size) (h : NodeAt w a v p pref nx (.slice none 0 0))
    (hL : Lcp pref key pref.size)
    (HC : ∀ q, AddAt nx (key.extract pref.size key.size) val pr g (w.drewN q) R) :
    AddAt (at0 a) key val pr g w R := by
  have c2 := h.c2
  have c3 := h.c3
  have hne := neB hk
  have hpe := neB hp
  have HL := Lib.hid hL
  have hLk := hL.2.1
  have HCh := Lib.hid HC
  clear h HC hL
  go_enter Try.func56, Try.ntmps56
  go_wp2_with fail
  go_loopw [10] (fun nv wr => ∃ k q : Nat, k ≤ pref.size ∧ nv = .int .i64 k ∧ wr = w.drewN q) (fun nv _ => (pref.size - RowKit.intOf nv).toNat)
  case atStart => exact ⟨0, 0, Nat.zero_le _, rfl, rfl⟩
  case round =>
    obtain ⟨k, q, hkL, rfl, rfl⟩ := hrel
    by_cases hlt : k < pref.size
    · have hb1 : decide ((k : Int) < (pref.size : Int)) = true := decide_eq_true (by omega)
      have hb2 : decide ((k : Int) < (key.size : Int)) = true := decide_eq_true (by omega)
      have i1 : k < pref.size := hlt
      have i2 : k < key.size := by omega
      have w5 := idx_run pref (k : Int) k rfl i1
      have w6 := idx_run key (k : Int) k rfl i2
      rw [← bt_at pref k i1, HL.out.2.2.1 k hlt] at w5
      rw [← bt_at key k i2] at w6
      generalize bt key k = x at w5 w6
      have hb0 : ((x.toNat : Int) != (x.toNat : Int)) = false := by simp
      go_wp2_with fail
      go_quiet (fail)
      go_wp2_with fail
      go_roundw
      case rel => exact ⟨k + 1, _, by omega, by go_num, rfl⟩
      case measure => simp [RowKit.intOf]; omega
    · obtain rfl : k = pref.size := by omega
      have hb1 : decide ((pref.size : Int) < (pref.size : Int)) = false := decide_eq_false (by omega)
      go_wp2_with fail
      go_region_with (go_at_call 56; (with_reducible refine (HCh.out _).mono ?_); rintro e w' ⟨rfl, hR⟩)
      go_end0
      exact ⟨rfl, hR⟩

set_option maxRecDepth 100000 in
set_option maxHeartbeats 1000000 in
theorem add_pre_split (a g L : Nat) (v val key pref : ByteArray) (P : Option Addr) (p pr : Nat) (w : World) (R : World → Prop) (hks : key.size ≤ 140737488355328) (hp : 1 ≤ pref.size) (hk : 1 ≤ key.size) (h : NodeAt w a v p pref (.pointer P) (.slice none 0 0))
    (hL : Lcp pref key L) (hL0 : 1 ≤ L) (hLp : L < pref.size)
    (HC : ∀ q, AddAt (at0 w.heap.size) (key.extract L key.size) val pr g ((((w.alloc (.cells (nodeCells ByteArray.empty 0 (pref.extract L pref.size) (.pointer P) (.slice none 0 0)) 77)).setCell ⟨a, 2, none⟩ (.string (pref.extract 0 L))).setCell ⟨a, 3, none⟩ (at0 w.heap.size)).drewN q) R) :
    AddAt (at0 a) key val pr g w R := by
  have c2 := h.c2
  have c3 := h.c3
  have f2 := h.nf 2
  have f3 := h.nf 3
  have hal := h.lt
  have hne := neB hk
  have hpe := neB hp
  have HL := Lib.hid hL
  have hLk := hL.2.1
  have HCh := Lib.hid HC
  clear h HC hL
  go_enter Try.func56, Try.ntmps56
  go_wp2_with fail
  go_loopw [10] (fun nv wr => ∃ k q : Nat, k ≤ L ∧ nv = .int .i64 k ∧ wr = w.drewN q) (fun nv _ => (L - RowKit.intOf nv).toNat)
  case atStart => exact ⟨0, 0, Nat.zero_le _, rfl, rfl⟩
  case round =>
    obtain ⟨k, q, hkL, rfl, rfl⟩ := hrel
    have hb1 : decide ((k : Int) < (pref.size : Int)) = true := decide_eq_true (by omega)
    by_cases hlt : k < L
    · have hb2 : decide ((k : Int) < (key.size : Int)) = true := decide_eq_true (by omega)
      have i1 : k < pref.size := by omega
      have i2 : k < key.size := by omega
      have w5 := idx_run pref (k : Int) k rfl i1
      have w6 := idx_run key (k : Int) k rfl i2
      rw [← bt_at pref k i1, HL.out.2.2.1 k hlt] at w5
      rw [← bt_at key k i2] at w6
      generalize bt key k = x at w5 w6
      have hb0 : ((x.toNat : Int) != (x.toNat : Int)) = false := by simp
      go_wp2_with fail
      go_quiet (fail)
      go_wp2_with fail
      go_roundw
      case rel => exact ⟨k + 1, _, by omega, by go_num, rfl⟩
      case measure => simp [RowKit.intOf]; omega
    · obtain rfl : k = L := by omega
      have hb3 : ((k : Int) == (pref.size : Int)) = false := beq_eq_false_iff_ne.2 (by omega)
      have hb4 : ((k : Int) == 0) = false := beq_eq_false_iff_ne.2 (by omega)
      by_cases hkk : k < key.size
      · have hb2 : decide ((k : Int) < (key.size : Int)) = true := decide_eq_true (by omega)
        have i1 : k < pref.size := by omega
        have i2 : k < key.size := by omega
        have w5 := idx_run pref (k : Int) k rfl i1
        have w6 := idx_run key (k : Int) k rfl i2
        rw [← bt_at pref k i1] at w5
        rw [← bt_at key k i2] at w6
        have hdf := HL.out.2.2.2 hLp hkk
        generalize bt key k = x at w6 hdf
        generalize bt pref k = y at w5 hdf
        have hb0 : ((y.toNat : Int) != (x.toNat : Int)) = true := by
          have : y.toNat ≠ x.toNat := fun e => hdf (UInt8.toNat_inj.1 e)
          rw [bne_iff_ne]; omega
        clear hdf
        have d1 : k ≤ pref.size := by omega
        go_wp2_with fail
        go_quiet (fail)
        go_wp2_with fail
        go_region
        generalize hW : World.alloc _ _ = W1
        have g2 : W1.cell? ⟨a, 2, none⟩ = some (.string pref) := by rw [← hW, World.cell?_alloc_lt _ _ _ hal]; exact c2
        have g3 : W1.cell? ⟨a, 3, none⟩ = some (.pointer P) := by rw [← hW, World.cell?_alloc_lt _ _ _ hal]; exact c3
        have k2 : W1.frozen? ⟨a, 2, none⟩ = false := by rw [← hW, World.frozen?_alloc_old _ _ _ (Nat.ne_of_lt hal)]; exact f2
        have k3 : W1.frozen? ⟨a, 3, none⟩ = false := by rw [← hW, World.frozen?_alloc_old _ _ _ (Nat.ne_of_lt hal)]; exact f3
        have HW := Lib.hid hW
        clear hW
        go_wp2_with fail
        rw [← HW.out]
        refine (HCh.out (q + nq + 1)).mono ?_
        rintro e w' ⟨rfl, hR⟩
        go_wp2_with fail
        go_end0
        exact ⟨rfl, hR⟩
      · have hb2 : decide ((k : Int) < (key.size : Int)) = false := decide_eq_false (by omega)
        have d1 : k ≤ pref.size := by omega
        go_wp2_with fail
        go_region
        generalize hW : World.alloc _ _ = W1
        have g2 : W1.cell? ⟨a, 2, none⟩ = some (.string pref) := by rw [← hW, World.cell?_alloc_lt _ _ _ hal]; exact c2
        have g3 : W1.cell? ⟨a, 3, none⟩ = some (.pointer P) := by rw [← hW, World.cell?_alloc_lt _ _ _ hal]; exact c3
        have k2 : W1.frozen? ⟨a, 2, none⟩ = false := by rw [← hW, World.frozen?_alloc_old _ _ _ (Nat.ne_of_lt hal)]; exact f2
        have k3 : W1.frozen? ⟨a, 3, none⟩ = false := by rw [← hW, World.frozen?_alloc_old _ _ _ (Nat.ne_of_lt hal)]; exact f3
        have HW := Lib.hid hW
        clear hW
        go_wp2_with fail
        rw [← HW.out]
        refine (HCh.out (q + 1)).mono ?_
        rintro e w' ⟨rfl, hR⟩
        go_wp2_with fail
        go_end0
        exact ⟨rfl, hR⟩
end Go.Proofs.Ytnigbgablginnaa

/- (*trieNode).add where a prefix differs at its first byte: the walks. -/
import Derived.Test.YtnigbgablginnaaTrA
import Derived.Deep.OwnRows
import Derived.Deep.CutRange
set_option linter.unusedVariables false
namespace Go.Proofs.Ytnigbgablginnaa
open Go.RowKit Go.Lib

theorem ptrInfo : (Try.prog.info? 74).map (fun i => (i.zero, i.size, i.bytes)) = some (some (.pointer none), 1, 8) := by kernel_rfl
abbrev leafObj : Obj := .cells (nodeCells ByteArray.empty 0 ByteArray.empty (.pointer none) (.slice none 0 0)) 77
abbrev tabObj (N : Nat) : Obj := .cells (madeCells #[.pointer none] N) 74
theorem made_cell (w : World) (N i : Nat) (hi : i < N) : (w.alloc (tabObj N)).cell? ⟨w.heap.size, i, none⟩ = some (.pointer none) := by
  have h := heap_alloc_new w (tabObj N)
  rw [cell_of_row _ _ i _ _ _ h]
  simp [madeCells, hi, Nat.mod_one]
theorem made_free (w : World) (N i : Nat) : (w.alloc (tabObj N)).frozen? ⟨w.heap.size, i, none⟩ = false :=
  frozen_of_row _ _ i _ _ (heap_alloc_new w (tabObj N))

section
variable (a g N : Nat) (v val key pref : ByteArray) (P : Option Addr) (p pr : Nat) (w : World) (R : World → Prop) (m : UInt8 → Nat)

set_option maxRecDepth 100000 in
set_option maxHeartbeats 2000000 in
theorem add_pre_none_one (hs : pref.size = 1) (hks : key.size ≤ 140737488355328) (hk : 1 ≤ key.size) (hN : N ≤ 256) (h : NodeAt w a v p pref (.pointer P) (.slice none 0 0)) (hr : RepAt w g N m)
    (hag : a ≠ g) (hd : bt pref 0 ≠ bt key 0) (hmx : m (bt pref 0) < N) (hmy : m (bt key 0) < N) (hxy : m (bt pref 0) ≠ m (bt key 0))
    (HC : ∀ q, AddAt (at0 w.heap.size) (key.extract 1 key.size) val pr g (((((((((w.alloc leafObj).setCell ⟨a, 4, none⟩ (.slice (some ⟨w.heap.size + 1, 0, none⟩) N N)).alloc (tabObj N)).setCell ⟨w.heap.size + 1, m (bt pref 0), none⟩ (.pointer P)).setCell ⟨w.heap.size + 1, m (bt key 0), none⟩ (at0 w.heap.size)).setCell ⟨a, 2, none⟩ (.string ByteArray.empty)).setCell ⟨a, 3, none⟩ (.pointer none))).drewN q) R) :
    AddAt (at0 a) key val pr g w R := by
  have hmk := run_make_row' (P := Try.prog) 75 74 (.pointer none) 8 Try.underlying75 ptrInfo rfl .i64 .i64 N (by omega) (by omega)
  have c2 := h.c2
  have c3 := h.c3
  have c4 := h.c4
  have f2 := h.nf 2
  have f3 := h.nf 3
  have f4 := h.nf 4
  have hal := h.lt
  have g5 := hr.size
  have gx := hr.map (bt pref 0)
  have gy := hr.map (bt key 0)
  have hgl : g < w.heap.size := World.block_lt_of_cell? _ _ g5
  have hne := neB hk
  have hpe := neB (c := pref) (by omega)
  have HCh := Lib.hid HC
  clear h HC hr
  have hb1 : decide ((0 : Int) < (pref.size : Int)) = true := decide_eq_true (by omega)
  have hb1' : decide (0 < pref.size) = true := decide_eq_true (by omega)
  have hb2 : decide ((0 : Int) < (key.size : Int)) = true := decide_eq_true (by omega)
  have hb2' : decide (0 < key.size) = true := decide_eq_true (by omega)
  have hb3 : ((0 : Int) == (pref.size : Int)) = false := beq_eq_false_iff_ne.2 (by omega)
  have hb4 : ((pref.size : Int) == 1) = true := by rw [hs]; rfl
  have i1 : 0 < pref.size := by omega
  have i2 : 0 < key.size := by omega
  have w5 := idx_run pref 0 0 rfl i1
  have w6 := idx_run key 0 0 rfl i2
  rw [← bt_at pref 0 i1] at w5
  rw [← bt_at key 0 i2] at w6
  generalize hye : bt key 0 = y at w6 gy hd hmy hxy HCh
  generalize bt pref 0 = x at w5 gx hd hmx hxy HCh
  generalize hmxe : m x = mx at gx hmx hxy HCh
  generalize hmye : m y = my at gy hmy hxy HCh
  have hb0 : ((x.toNat : Int) != (y.toNat : Int)) = true := by
    have : x.toNat ≠ y.toNat := fun e => hd (UInt8.toNat_inj.1 e)
    rw [bne_iff_ne]; omega
  have x256 := x.toNat_lt
  have y256 := y.toNat_lt
  have HD := Lib.hid hd
  have HY := Lib.hid hye
  have HS := Lib.hid hs
  clear hd hmxe hmye hs hye
  go_enter Try.func56, Try.ntmps56
  go_wp2_with fail
  go_loopw [10] (fun nv wr => nv = .int .i64 0 ∧ wr = w) (fun nv _ => 0)
  case atStart => exact ⟨rfl, rfl⟩
  case round =>
    obtain ⟨rfl, rfl⟩ := hrel
    go_wp2_with fail
    go_quiet (fail)
    clear w6
    go_upto_region 17 with (fail)
    generalize hW1 : World.alloc _ _ = W1
    have hz1 : W1.heap.size = wr.heap.size + 1 := by rw [← hW1]; exact Array.size_push _
    have b2 : W1.cell? ⟨a, 2, none⟩ = some (.string pref) := by rw [← hW1, World.cell?_alloc_lt _ _ _ hal]; exact c2
    have b3 : W1.cell? ⟨a, 3, none⟩ = some (.pointer P) := by rw [← hW1, World.cell?_alloc_lt _ _ _ hal]; exact c3
    have b4 : W1.cell? ⟨a, 4, none⟩ = some (.slice none 0 0) := by rw [← hW1, World.cell?_alloc_lt _ _ _ hal]; exact c4
    have b5 : W1.cell? ⟨g, 5, none⟩ = some (.int .i64 N) := by rw [← hW1, World.cell?_alloc_lt _ _ _ hgl]; exact g5
    have bx : W1.cell? ⟨g, 6 + x.toNat, none⟩ = some (.int .u8 mx) := by rw [← hW1, World.cell?_alloc_lt _ _ _ hgl]; exact gx
    have by_ : W1.cell? ⟨g, 6 + y.toNat, none⟩ = some (.int .u8 my) := by rw [← hW1, World.cell?_alloc_lt _ _ _ hgl]; exact gy
    have k2 : W1.frozen? ⟨a, 2, none⟩ = false := by rw [← hW1, World.frozen?_alloc_old _ _ _ (Nat.ne_of_lt hal)]; exact f2
    have k3 : W1.frozen? ⟨a, 3, none⟩ = false := by rw [← hW1, World.frozen?_alloc_old _ _ _ (Nat.ne_of_lt hal)]; exact f3
    have k4 : W1.frozen? ⟨a, 4, none⟩ = false := by rw [← hW1, World.frozen?_alloc_old _ _ _ (Nat.ne_of_lt hal)]; exact f4
    have ha1 : a < W1.heap.size := by rw [hz1]; exact Nat.lt_succ_of_lt hal
    have hg1 : g < W1.heap.size := by rw [hz1]; exact Nat.lt_succ_of_lt hgl
    have HW1 := Lib.hid hW1
    have HZ1 := Lib.hid hz1
    clear hW1 hz1 c2 c3 c4 f2 f3 f4 g5 gx gy hal hgl
    go_wp2_with fail
    generalize hW3 : World.alloc _ _ = W3
    have d2 : W3.cell? ⟨a, 2, none⟩ = some (.string pref) := by rw [← hW3, World.cell?_alloc_lt _ _ _ (by simpa using ha1), World.cell?_setCell_other _ _ _ _ (by simp)]; exact b2
    have d3 : W3.cell? ⟨a, 3, none⟩ = some (.pointer P) := by rw [← hW3, World.cell?_alloc_lt _ _ _ (by simpa using ha1), World.cell?_setCell_other _ _ _ _ (by simp)]; exact b3
    have d4 : W3.cell? ⟨a, 4, none⟩ = some (.slice (some ⟨W1.heap.size, 0, none⟩) N N) := by rw [← hW3, World.cell?_alloc_lt _ _ _ (by simpa using ha1), World.cell?_setCell_same _ _ _ b4]
    have dx : W3.cell? ⟨g, 6 + x.toNat, none⟩ = some (.int .u8 mx) := by rw [← hW3, World.cell?_alloc_lt _ _ _ (by simpa using hg1), World.cell?_setCell_other _ _ _ _ (fun e => hag (congrArg Addr.block e))]; exact bx
    have dy : W3.cell? ⟨g, 6 + y.toNat, none⟩ = some (.int .u8 my) := by rw [← hW3, World.cell?_alloc_lt _ _ _ (by simpa using hg1), World.cell?_setCell_other _ _ _ _ (fun e => hag (congrArg Addr.block e))]; exact by_
    have tx : W3.cell? ⟨W1.heap.size, mx, none⟩ = some (.pointer none) := by rw [← hW3]; simpa using made_cell (W1.setCell ⟨a, 4, none⟩ (.slice (some ⟨W1.heap.size, 0, none⟩) N N)) N mx hmx
    have ty : W3.cell? ⟨W1.heap.size, my, none⟩ = some (.pointer none) := by rw [← hW3]; simpa using made_cell (W1.setCell ⟨a, 4, none⟩ (.slice (some ⟨W1.heap.size, 0, none⟩) N N)) N my hmy
    have ux : W3.frozen? ⟨W1.heap.size, mx, none⟩ = false := by rw [← hW3]; simpa using made_free (W1.setCell ⟨a, 4, none⟩ (.slice (some ⟨W1.heap.size, 0, none⟩) N N)) N mx
    have uy : W3.frozen? ⟨W1.heap.size, my, none⟩ = false := by rw [← hW3]; simpa using made_free (W1.setCell ⟨a, 4, none⟩ (.slice (some ⟨W1.heap.size, 0, none⟩) N N)) N my
    have e2 : W3.frozen? ⟨a, 2, none⟩ = false := by rw [← hW3, World.frozen?_alloc_old _ _ _ (by simpa using Nat.ne_of_lt ha1), World.frozen?_setCell]; exact k2
    have e3 : W3.frozen? ⟨a, 3, none⟩ = false := by rw [← hW3, World.frozen?_alloc_old _ _ _ (by simpa using Nat.ne_of_lt ha1), World.frozen?_setCell]; exact k3
    generalize hT : W1.heap.size = T at d4 tx ty ux uy ha1 hg1 ⊢
    have HW3 := Lib.hid hW3
    have HT := Lib.hid hT
    have mx0 : (0 : Int) ≤ (mx : Int) := by omega
    have mx1 : (mx : Int) < (N : Int) := by omega
    have my0 : (0 : Int) ≤ (my : Int) := by omega
    have my1 : (my : Int) < (N : Int) := by omega
    have hgT : g ≠ T := Nat.ne_of_lt hg1
    have haT : a ≠ T := Nat.ne_of_lt ha1
    clear hW3 hT b2 b3 b4 b5 bx by_ k2 k3 k4 ha1 hg1
    go_region
    go_wp2_with fail
    generalize hW4 : World.drew _ = W4
    have d2' : W4.cell? ⟨a, 2, none⟩ = some (.string pref) := by rw [← hW4]; show (W3.setCell _ _).cell? _ = _; rw [World.cell?_setCell_other _ _ _ _ (fun e => haT (congrArg Addr.block e).symm)]; exact d2
    have d3' : W4.cell? ⟨a, 3, none⟩ = some (.pointer P) := by rw [← hW4]; show (W3.setCell _ _).cell? _ = _; rw [World.cell?_setCell_other _ _ _ _ (fun e => haT (congrArg Addr.block e).symm)]; exact d3
    have d4' : W4.cell? ⟨a, 4, none⟩ = some (.slice (some ⟨T, 0, none⟩) N N) := by rw [← hW4]; show (W3.setCell _ _).cell? _ = _; rw [World.cell?_setCell_other _ _ _ _ (fun e => haT (congrArg Addr.block e).symm)]; exact d4
    have dy' : W4.cell? ⟨g, 6 + y.toNat, none⟩ = some (.int .u8 my) := by rw [← hW4]; show (W3.setCell _ _).cell? _ = _; rw [World.cell?_setCell_other _ _ _ _ (fun e => hgT (congrArg Addr.block e).symm)]; exact dy
    have ty' : W4.cell? ⟨T, my, none⟩ = some (.pointer none) := by rw [← hW4]; show (W3.setCell _ _).cell? _ = _; rw [World.cell?_setCell_other _ _ _ _ (fun e => hxy (congrArg Addr.off e))]; exact ty
    have uy' : W4.frozen? ⟨T, my, none⟩ = false := by rw [← hW4]; show (W3.setCell _ _).frozen? _ = _; rw [World.frozen?_setCell]; exact uy
    have e2' : W4.frozen? ⟨a, 2, none⟩ = false := by rw [← hW4]; show (W3.setCell _ _).frozen? _ = _; rw [World.frozen?_setCell]; exact e2
    have e3' : W4.frozen? ⟨a, 3, none⟩ = false := by rw [← hW4]; show (W3.setCell _ _).frozen? _ = _; rw [World.frozen?_setCell]; exact e3
    have HW4 := Lib.hid hW4
    clear hW4 d2 d3 d4 dx dy tx ty ux uy e2 e3 w5
    have w6 := idx_run key 0 0 rfl i2
    rw [← bt_at key 0 i2, HY.out] at w6
    go_region
    clear w6
    have haT' : T ≠ a := fun e => haT e.symm
    go_wp2_with fail
    have q3 := HW3.out
    rw [HZ1.out] at q3
    have q1 := HW1.out
    have q4 := HW4.out
    obtain rfl : T = wr.heap.size + 1 := HT.out.symm.trans HZ1.out
    rw [← q4, ← q3, ← q1]
    refine (HCh.out (nq + 2)).mono ?_
    rintro e w' ⟨rfl, hR⟩
    go_wp2_with fail
    go_end0
    exact ⟨rfl, hR⟩
set_option maxRecDepth 100000 in
set_option maxHeartbeats 2000000 in
theorem add_pre_none_more (hs : 1 < pref.size) (hks : key.size ≤ 140737488355328) (hk : 1 ≤ key.size) (hN : N ≤ 256) (h : NodeAt w a v p pref (.pointer P) (.slice none 0 0)) (hr : RepAt w g N m)
    (hag : a ≠ g) (hd : bt pref 0 ≠ bt key 0) (hmx : m (bt pref 0) < N) (hmy : m (bt key 0) < N) (hxy : m (bt pref 0) ≠ m (bt key 0))
    (HC : ∀ q, AddAt (at0 (w.heap.size + 1)) (key.extract 1 key.size) val pr g ((((((((((w.alloc (.cells (nodeCells ByteArray.empty 0 (pref.extract 1 pref.size) (.pointer P) (.slice none 0 0)) 77)).alloc leafObj).setCell ⟨a, 4, none⟩ (.slice (some ⟨w.heap.size + 2, 0, none⟩) N N)).alloc (tabObj N)).setCell ⟨w.heap.size + 2, m (bt pref 0), none⟩ (at0 w.heap.size)).setCell ⟨w.heap.size + 2, m (bt key 0), none⟩ (at0 (w.heap.size + 1))).setCell ⟨a, 2, none⟩ (.string ByteArray.empty)).setCell ⟨a, 3, none⟩ (.pointer none))).drewN q) R) :
    AddAt (at0 a) key val pr g w R := by
  have hmk := run_make_row' (P := Try.prog) 75 74 (.pointer none) 8 Try.underlying75 ptrInfo rfl .i64 .i64 N (by omega) (by omega)
  have c2 := h.c2
  have c3 := h.c3
  have c4 := h.c4
  have f2 := h.nf 2
  have f3 := h.nf 3
  have f4 := h.nf 4
  have hal := h.lt
  have g5 := hr.size
  have gx := hr.map (bt pref 0)
  have gy := hr.map (bt key 0)
  have hgl : g < w.heap.size := World.block_lt_of_cell? _ _ g5
  have hne := neB hk
  have hpe := neB (c := pref) (by omega)
  have HCh := Lib.hid HC
  clear h HC hr
  have hb1 : decide ((0 : Int) < (pref.size : Int)) = true := decide_eq_true (by omega)
  have hb1' : decide (0 < pref.size) = true := decide_eq_true (by omega)
  have hb2 : decide ((0 : Int) < (key.size : Int)) = true := decide_eq_true (by omega)
  have hb2' : decide (0 < key.size) = true := decide_eq_true (by omega)
  have hb3 : ((0 : Int) == (pref.size : Int)) = false := beq_eq_false_iff_ne.2 (by omega)
  have hb4 : ((pref.size : Int) == 1) = false := beq_eq_false_iff_ne.2 (by omega)
  have hb5 : (1 : Int) ≤ (pref.size : Int) := by omega
  have hb6 : 1 ≤ pref.size := by omega
  have i1 : 0 < pref.size := by omega
  have i2 : 0 < key.size := by omega
  have w5 := idx_run pref 0 0 rfl i1
  have w6 := idx_run key 0 0 rfl i2
  rw [← bt_at pref 0 i1] at w5
  rw [← bt_at key 0 i2] at w6
  generalize hye : bt key 0 = y at w6 gy hd hmy hxy HCh
  generalize bt pref 0 = x at w5 gx hd hmx hxy HCh
  generalize hmxe : m x = mx at gx hmx hxy HCh
  generalize hmye : m y = my at gy hmy hxy HCh
  have hb0 : ((x.toNat : Int) != (y.toNat : Int)) = true := by
    have : x.toNat ≠ y.toNat := fun e => hd (UInt8.toNat_inj.1 e)
    rw [bne_iff_ne]; omega
  have x256 := x.toNat_lt
  have y256 := y.toNat_lt
  have HD := Lib.hid hd
  have HY := Lib.hid hye
  have HS := Lib.hid hs
  clear hd hmxe hmye hs hye
  go_enter Try.func56, Try.ntmps56
  go_wp2_with fail
  go_loopw [10] (fun nv wr => nv = .int .i64 0 ∧ wr = w) (fun nv _ => 0)
  case atStart => exact ⟨rfl, rfl⟩
  case round =>
    obtain ⟨rfl, rfl⟩ := hrel
    go_wp2_with fail
    go_quiet (fail)
    clear w6
    go_wp2_with fail
    go_region
    generalize hW0 : World.alloc _ _ = W0
    have hz0 : W0.heap.size = wr.heap.size + 1 := by rw [← hW0]; exact Array.size_push _
    have a2 : W0.cell? ⟨a, 2, none⟩ = some (.string pref) := by rw [← hW0, World.cell?_alloc_lt _ _ _ hal]; exact c2
    have a3 : W0.cell? ⟨a, 3, none⟩ = some (.pointer P) := by rw [← hW0, World.cell?_alloc_lt _ _ _ hal]; exact c3
    have a4 : W0.cell? ⟨a, 4, none⟩ = some (.slice none 0 0) := by rw [← hW0, World.cell?_alloc_lt _ _ _ hal]; exact c4
    have a5 : W0.cell? ⟨g, 5, none⟩ = some (.int .i64 N) := by rw [← hW0, World.cell?_alloc_lt _ _ _ hgl]; exact g5
    have ax : W0.cell? ⟨g, 6 + x.toNat, none⟩ = some (.int .u8 mx) := by rw [← hW0, World.cell?_alloc_lt _ _ _ hgl]; exact gx
    have ay : W0.cell? ⟨g, 6 + y.toNat, none⟩ = some (.int .u8 my) := by rw [← hW0, World.cell?_alloc_lt _ _ _ hgl]; exact gy
    have j2 : W0.frozen? ⟨a, 2, none⟩ = false := by rw [← hW0, World.frozen?_alloc_old _ _ _ (Nat.ne_of_lt hal)]; exact f2
    have j3 : W0.frozen? ⟨a, 3, none⟩ = false := by rw [← hW0, World.frozen?_alloc_old _ _ _ (Nat.ne_of_lt hal)]; exact f3
    have j4 : W0.frozen? ⟨a, 4, none⟩ = false := by rw [← hW0, World.frozen?_alloc_old _ _ _ (Nat.ne_of_lt hal)]; exact f4
    have ha0 : a < W0.heap.size := by rw [hz0]; exact Nat.lt_succ_of_lt hal
    have hg0 : g < W0.heap.size := by rw [hz0]; exact Nat.lt_succ_of_lt hgl
    have HW0 := Lib.hid hW0
    have HZ0 := Lib.hid hz0
    clear hW0 hz0 c2 c3 c4 f2 f3 f4 g5 gx gy hal hgl
    go_upto_region 17 with (fail)
    generalize hW1 : World.alloc _ _ = W1
    have hz1 : W1.heap.size = W0.heap.size + 1 := by rw [← hW1]; exact Array.size_push _
    have b2 : W1.cell? ⟨a, 2, none⟩ = some (.string pref) := by rw [← hW1, World.cell?_alloc_lt _ _ _ ha0]; exact a2
    have b3 : W1.cell? ⟨a, 3, none⟩ = some (.pointer P) := by rw [← hW1, World.cell?_alloc_lt _ _ _ ha0]; exact a3
    have b4 : W1.cell? ⟨a, 4, none⟩ = some (.slice none 0 0) := by rw [← hW1, World.cell?_alloc_lt _ _ _ ha0]; exact a4
    have b5 : W1.cell? ⟨g, 5, none⟩ = some (.int .i64 N) := by rw [← hW1, World.cell?_alloc_lt _ _ _ hg0]; exact a5
    have bx : W1.cell? ⟨g, 6 + x.toNat, none⟩ = some (.int .u8 mx) := by rw [← hW1, World.cell?_alloc_lt _ _ _ hg0]; exact ax
    have by_ : W1.cell? ⟨g, 6 + y.toNat, none⟩ = some (.int .u8 my) := by rw [← hW1, World.cell?_alloc_lt _ _ _ hg0]; exact ay
    have k2 : W1.frozen? ⟨a, 2, none⟩ = false := by rw [← hW1, World.frozen?_alloc_old _ _ _ (Nat.ne_of_lt ha0)]; exact j2
    have k3 : W1.frozen? ⟨a, 3, none⟩ = false := by rw [← hW1, World.frozen?_alloc_old _ _ _ (Nat.ne_of_lt ha0)]; exact j3
    have k4 : W1.frozen? ⟨a, 4, none⟩ = false := by rw [← hW1, World.frozen?_alloc_old _ _ _ (Nat.ne_of_lt ha0)]; exact j4
    have ha1 : a < W1.heap.size := by rw [hz1]; exact Nat.lt_succ_of_lt ha0
    have hg1 : g < W1.heap.size := by rw [hz1]; exact Nat.lt_succ_of_lt hg0
    have HW1 := Lib.hid hW1
    have HZ1 := Lib.hid hz1
    clear hW1 hz1 a2 a3 a4 j2 j3 j4 a5 ax ay ha0 hg0
    go_wp2_with fail
    generalize hW3 : World.alloc _ _ = W3
    have d2 : W3.cell? ⟨a, 2, none⟩ = some (.string pref) := by rw [← hW3, World.cell?_alloc_lt _ _ _ (by simpa using ha1), World.cell?_setCell_other _ _ _ _ (by simp)]; exact b2
    have d3 : W3.cell? ⟨a, 3, none⟩ = some (.pointer P) := by rw [← hW3, World.cell?_alloc_lt _ _ _ (by simpa using ha1), World.cell?_setCell_other _ _ _ _ (by simp)]; exact b3
    have d4 : W3.cell? ⟨a, 4, none⟩ = some (.slice (some ⟨W1.heap.size, 0, none⟩) N N) := by rw [← hW3, World.cell?_alloc_lt _ _ _ (by simpa using ha1), World.cell?_setCell_same _ _ _ b4]
    have dx : W3.cell? ⟨g, 6 + x.toNat, none⟩ = some (.int .u8 mx) := by rw [← hW3, World.cell?_alloc_lt _ _ _ (by simpa using hg1), World.cell?_setCell_other _ _ _ _ (fun e => hag (congrArg Addr.block e))]; exact bx
    have dy : W3.cell? ⟨g, 6 + y.toNat, none⟩ = some (.int .u8 my) := by rw [← hW3, World.cell?_alloc_lt _ _ _ (by simpa using hg1), World.cell?_setCell_other _ _ _ _ (fun e => hag (congrArg Addr.block e))]; exact by_
    have tx : W3.cell? ⟨W1.heap.size, mx, none⟩ = some (.pointer none) := by rw [← hW3]; simpa using made_cell (W1.setCell ⟨a, 4, none⟩ (.slice (some ⟨W1.heap.size, 0, none⟩) N N)) N mx hmx
    have ty : W3.cell? ⟨W1.heap.size, my, none⟩ = some (.pointer none) := by rw [← hW3]; simpa using made_cell (W1.setCell ⟨a, 4, none⟩ (.slice (some ⟨W1.heap.size, 0, none⟩) N N)) N my hmy
    have ux : W3.frozen? ⟨W1.heap.size, mx, none⟩ = false := by rw [← hW3]; simpa using made_free (W1.setCell ⟨a, 4, none⟩ (.slice (some ⟨W1.heap.size, 0, none⟩) N N)) N mx
    have uy : W3.frozen? ⟨W1.heap.size, my, none⟩ = false := by rw [← hW3]; simpa using made_free (W1.setCell ⟨a, 4, none⟩ (.slice (some ⟨W1.heap.size, 0, none⟩) N N)) N my
    have e2 : W3.frozen? ⟨a, 2, none⟩ = false := by rw [← hW3, World.frozen?_alloc_old _ _ _ (by simpa using Nat.ne_of_lt ha1), World.frozen?_setCell]; exact k2
    have e3 : W3.frozen? ⟨a, 3, none⟩ = false := by rw [← hW3, World.frozen?_alloc_old _ _ _ (by simpa using Nat.ne_of_lt ha1), World.frozen?_setCell]; exact k3
    generalize hT : W1.heap.size = T at d4 tx ty ux uy ha1 hg1 ⊢
    have HW3 := Lib.hid hW3
    have HT := Lib.hid hT
    have mx0 : (0 : Int) ≤ (mx : Int) := by omega
    have mx1 : (mx : Int) < (N : Int) := by omega
    have my0 : (0 : Int) ≤ (my : Int) := by omega
    have my1 : (my : Int) < (N : Int) := by omega
    have hgT : g ≠ T := Nat.ne_of_lt hg1
    have haT : a ≠ T := Nat.ne_of_lt ha1
    clear hW3 hT b2 b3 b4 b5 bx by_ k2 k3 k4 ha1 hg1
    go_region
    go_wp2_with fail
    generalize hW4 : World.drew _ = W4
    have d2' : W4.cell? ⟨a, 2, none⟩ = some (.string pref) := by rw [← hW4]; show (W3.setCell _ _).cell? _ = _; rw [World.cell?_setCell_other _ _ _ _ (fun e => haT (congrArg Addr.block e).symm)]; exact d2
    have d3' : W4.cell? ⟨a, 3, none⟩ = some (.pointer P) := by rw [← hW4]; show (W3.setCell _ _).cell? _ = _; rw [World.cell?_setCell_other _ _ _ _ (fun e => haT (congrArg Addr.block e).symm)]; exact d3
    have d4' : W4.cell? ⟨a, 4, none⟩ = some (.slice (some ⟨T, 0, none⟩) N N) := by rw [← hW4]; show (W3.setCell _ _).cell? _ = _; rw [World.cell?_setCell_other _ _ _ _ (fun e => haT (congrArg Addr.block e).symm)]; exact d4
    have dy' : W4.cell? ⟨g, 6 + y.toNat, none⟩ = some (.int .u8 my) := by rw [← hW4]; show (W3.setCell _ _).cell? _ = _; rw [World.cell?_setCell_other _ _ _ _ (fun e => hgT (congrArg Addr.block e).symm)]; exact dy
    have ty' : W4.cell? ⟨T, my, none⟩ = some (.pointer none) := by rw [← hW4]; show (W3.setCell _ _).cell? _ = _; rw [World.cell?_setCell_other _ _ _ _ (fun e => hxy (congrArg Addr.off e))]; exact ty
    have uy' : W4.frozen? ⟨T, my, none⟩ = false := by rw [← hW4]; show (W3.setCell _ _).frozen? _ = _; rw [World.frozen?_setCell]; exact uy
    have e2' : W4.frozen? ⟨a, 2, none⟩ = false := by rw [← hW4]; show (W3.setCell _ _).frozen? _ = _; rw [World.frozen?_setCell]; exact e2
    have e3' : W4.frozen? ⟨a, 3, none⟩ = false := by rw [← hW4]; show (W3.setCell _ _).frozen? _ = _; rw [World.frozen?_setCell]; exact e3
    have HW4 := Lib.hid hW4
    clear hW4 d2 d3 d4 dx dy tx ty ux uy e2 e3 w5
    have w6 := idx_run key 0 0 rfl i2
    rw [← bt_at key 0 i2, HY.out] at w6
    go_region
    clear w6
    have haT' : T ≠ a := fun e => haT e.symm
    go_wp2_with fail
    have q3 := HW3.out
    rw [HZ1.out, HZ0.out] at q3
    have q1 := HW1.out
    have q0 := HW0.out
    have q4 := HW4.out
    obtain rfl : T = wr.heap.size + 2 := by rw [← HT.out, HZ1.out, HZ0.out]
    rw [HZ0.out]
    rw [← q4, ← q3, ← q1, ← q0]
    refine (HCh.out (nq + 3)).mono ?_
    rintro e w' ⟨rfl, hR⟩
    go_wp2_with fail
    go_end0
    exact ⟨rfl, hR⟩
end
end Go.Proofs.Ytnigbgablginnaa

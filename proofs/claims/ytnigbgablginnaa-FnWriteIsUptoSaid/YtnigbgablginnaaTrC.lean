/- (*trieNode).add at a table: the walks. -/
import Derived.Test.YtnigbgablginnaaTrA
import Derived.Deep.OwnRows
import Derived.Deep.CutRange
set_option linter.unusedVariables false
namespace Go.Proofs.Ytnigbgablginnaa
open Go.RowKit Go.Lib

section
variable (a g N tb : Nat) (v val key : ByteArray) (p pr : Nat) (w : World) (R : World → Prop) (m : UInt8 → Nat)

set_option maxRecDepth 100000 in
set_option maxHeartbeats 2000000 in
theorem add_tab_some (Q : Addr) (hks : key.size ≤ 140737488355328) (hk : 1 ≤ key.size) (h : NodeAt w a v p ByteArray.empty (.pointer none) (.slice (some ⟨tb, 0, none⟩) N N)) (hr : RepAt w g N m)
    (hmy : m (bt key 0) < N) (hc : w.cell? ⟨tb, m (bt key 0), none⟩ = some (.pointer (some Q)))
    (HC : ∀ q, AddAt (.pointer (some Q)) (key.extract 1 key.size) val pr g (w.drewN q) R) :
    AddAt (at0 a) key val pr g w R := by
  have qT := fun (w : World) (a : Option Addr) (n c n' c' : Nat) => run_neq_slice_nil_any w 75 _ a n c n' c' Try.underlying75
  have c2 := h.c2
  have c4 := h.c4
  have gy := hr.map (bt key 0)
  have hne := neB hk
  have HCh := Lib.hid HC
  clear h HC hr
  have i2 : 0 < key.size := by omega
  have hb5 : (1 : Int) ≤ (key.size : Int) := by omega
  have w6 := idx_run key 0 0 rfl i2
  rw [← bt_at key 0 i2] at w6
  generalize bt key 0 = y at w6 gy hmy hc HCh
  generalize hmye : m y = my at gy hmy hc HCh
  have y256 := y.toNat_lt
  have my0 : (0 : Int) ≤ (my : Int) := by omega
  have my1 : (my : Int) < (N : Int) := by omega
  clear hmye
  go_enter Try.func56, Try.ntmps56
  go_wp2_with fail
  go_quiet (fail)
  clear w6
  go_wp2_with fail
  go_region_with (go_at_call 56; (with_reducible refine (HCh.out _).mono ?_); rintro e w' ⟨rfl, hR⟩)
  go_end0
  exact ⟨rfl, hR⟩

set_option maxRecDepth 100000 in
set_option maxHeartbeats 2000000 in
theorem add_tab_none (hks : key.size ≤ 140737488355328) (hk : 1 ≤ key.size) (h : NodeAt w a v p ByteArray.empty (.pointer none) (.slice (some ⟨tb, 0, none⟩) N N)) (hr : RepAt w g N m)
    (hta : tb ≠ a) (hmy : m (bt key 0) < N) (hc : w.cell? ⟨tb, m (bt key 0), none⟩ = some (.pointer none)) (hf : w.frozen? ⟨tb, m (bt key 0), none⟩ = false)
    (HC : ∀ q, AddAt (at0 w.heap.size) (key.extract 1 key.size) val pr g (((w.setCell ⟨tb, m (bt key 0), none⟩ (at0 w.heap.size)).alloc (.cells (nodeCells ByteArray.empty 0 ByteArray.empty (.pointer none) (.slice none 0 0)) 77)).drewN q) R) :
    AddAt (at0 a) key val pr g w R := by
  have qT := fun (w : World) (a : Option Addr) (n c n' c' : Nat) => run_neq_slice_nil_any w 75 _ a n c n' c' Try.underlying75
  have c2 := h.c2
  have c4 := h.c4
  have gy := hr.map (bt key 0)
  have hal := h.lt
  have htl : tb < w.heap.size := World.block_lt_of_cell? _ _ hc
  have hne := neB hk
  have HCh := Lib.hid HC
  clear h HC hr
  have i2 : 0 < key.size := by omega
  have hb5 : (1 : Int) ≤ (key.size : Int) := by omega
  have w6 := idx_run key 0 0 rfl i2
  rw [← bt_at key 0 i2] at w6
  generalize bt key 0 = y at w6 gy hmy hc hf HCh
  generalize hmye : m y = my at gy hmy hc hf HCh
  have y256 := y.toNat_lt
  have my0 : (0 : Int) ≤ (my : Int) := by omega
  have my1 : (my : Int) < (N : Int) := by omega
  clear hmye
  go_enter Try.func56, Try.ntmps56
  go_wp2_with fail
  go_quiet (fail)
  clear w6
  generalize hW0 : World.drewN _ _ = W0
  have hz0 : W0.heap.size = w.heap.size := by rw [← hW0]; rfl
  have a2 : W0.cell? ⟨a, 2, none⟩ = some (.string ByteArray.empty) := by rw [← hW0]; exact c2
  have a4 : W0.cell? ⟨a, 4, none⟩ = some (.slice (some ⟨tb, 0, none⟩) N N) := by rw [← hW0]; exact c4
  have ac : W0.cell? ⟨tb, my, none⟩ = some (.pointer none) := by rw [← hW0]; exact hc
  have af : W0.frozen? ⟨tb, my, none⟩ = false := by rw [← hW0]; exact hf
  have ha0 : a < W0.heap.size := by rw [hz0]; exact hal
  have ht0 : tb < W0.heap.size := by rw [hz0]; exact htl
  have HW0 := Lib.hid hW0
  have HZ0 := Lib.hid hz0
  clear hW0 hz0 c2 c4 hc hf hal htl gy
  go_wp2_with fail
  generalize hW1 : World.alloc _ _ = W1
  have b4 : W1.cell? ⟨a, 4, none⟩ = some (.slice (some ⟨tb, 0, none⟩) N N) := by rw [← hW1, World.cell?_alloc_lt _ _ _ (by simpa using ha0), World.cell?_setCell_other _ _ _ _ (fun e => hta (congrArg Addr.block e))]; exact a4
  have bc_ : W1.cell? ⟨tb, my, none⟩ = some (.pointer (some ⟨W0.heap.size, 0, none⟩)) := by rw [← hW1, World.cell?_alloc_lt _ _ _ (by simpa using ht0), World.cell?_setCell_same _ _ _ ac]
  have HW1 := Lib.hid hW1
  clear hW1 a2 a4 ac af
  have HCx : Hid (AddAt (at0 W0.heap.size) (key.extract 1 key.size) val pr g W1.drew R) := Lib.hid (by rw [← HW1.out, ← HW0.out]; exact HCh.out (nq + 1))
  go_region_with (go_at_call 56; (with_reducible refine HCx.out.mono ?_); rintro e w' ⟨rfl, hR⟩)
  go_end0
  exact ⟨rfl, hR⟩
end
end Go.Proofs.Ytnigbgablginnaa

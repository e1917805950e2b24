/- gostrings.makeASCIISet, (*asciiSet).contains (the shelf's walks of strings' own, turned to this program's copy; and a set that is not ASCII). -/
import Derived.Test.YtblaldahhhokmaaDoorIR
import Derived.Lib.AsciiSet
import Derived.Laws.ResultCell
import Derived.Deep.WholeRow
set_option linter.unusedVariables false
namespace Go.Proofs.YtblaldahhhokmaaDoor
open Go.RowKit Go.Lib

theorem hvSet (w : World) : (zeroValue 73).run Tryd.prog w = .ok (.agg (Array.replicate 256 (.bool false))) w := by kernel_rfl
theorem aggSet (w : World) : (isAgg 73).run Tryd.prog w = .ok true w := by kernel_rfl
theorem sizeSet (w : World) : (Go.sizeOf 73).run Tryd.prog w = .ok 256 w := by kernel_rfl
theorem hiSet : (Tryd.prog.info? 73).map (·.size) = some 256 := by kernel_rfl

set_option maxHeartbeats 4000000 in
set_option maxRecDepth 1000000 in
theorem makeASCIISet (chars : ByteArray) (w : World) (hs : chars.size < 4294967281)
    (hascii : ∀ (j : Nat) b, chars.data.toList[j]? = some b → b.toNat < 128) :
    Calls Tryd.prog 65 #[.string chars] w fun e w' => e = .returned (.tuple #[.agg (Lib.setCells chars.data.toList), .bool true]) ∧ w' = w.alloc (.cells (Lib.setCells chars.data.toList) 73) := by
  have HA : Hid (∀ (j : Nat) b, chars.data.toList[j]? = some b → b.toNat < 128) := hascii
  clear hascii
  have v38 := hvSet
  go_enter Tryd.func65, Tryd.ntmps65
  go_wp2
  rw [← Lib.setCells_nil]
  go_loopg [4] chars.size (fun g s4 wx => ∃ i : Nat, i + g = chars.size ∧ s4 = .int .i64 i ∧ wx = w.alloc (.cells (Lib.setCells (chars.data.toList.take i)) 73))
  case atStart => exact ⟨0, by omega, rfl, rfl⟩
  case round =>
    obtain ⟨i, hig, rfl, rfl⟩ := hrel
    cases gk with
    | zero =>
      obtain rfl : i = chars.size := by omega
      have hiz : ¬ ((chars.size : Int) < (chars.size : Int)) := by omega
      rw [show chars.data.toList.take chars.size = chars.data.toList from List.take_of_length_le (by rw [← Lib.size_eq]; exact Nat.le_refl _)]
      have hld := run_loadVar_new (P := Tryd.prog) w 73 (Lib.setCells chars.data.toList) 256 4 Tryd.underlying73 (by rw [Lib.setCells_size]; exact hiSet)
      have hsz := Lib.setCells_size chars.data.toList
      go_wp2_with (first | (refine wpList_load_row rfl 73 _ rfl w.heap.size rfl 73 (Lib.setCells chars.data.toList) (0, 0) _ (heap_alloc_last _ _) Tryd.underlying73 rfl (by rw [Lib.setCells_size]; exact hiSet) ?_) | (refine wpList_store_row rfl 73 _ _ rfl w.heap.size (Lib.setCells chars.data.toList) rfl rfl 73 (Lib.setCells chars.data.toList) (heap_alloc_last _ _) (by rw [Lib.setCells_size]; exact hiSet) rfl (Lib.setCells_one _) ?_; rw [World.setRow_alloc_new]))
      (try simp only [Exit.inBlock, Exit.then])
      refine bodyPost_ret (v := .tuple #[.agg (Lib.setCells chars.data.toList), .bool true]) ?_ rfl ⟨rfl, rfl⟩
      rw [results_cell_tmp rfl]
      simp [asAddr, Result.andThen, hld]
    | succ g =>
      have hi : i < chars.size := by omega
      have hiz : (i : Int) < (chars.size : Int) := by omega
      obtain ⟨x, hx⟩ : ∃ x : UInt8, chars[i]'hi = x := ⟨_, rfl⟩
      have hxl : chars.data.toList[i]? = some x := by rw [← hx]; exact Lib.data_getElem? chars i hi
      have hx128 : ¬ ((128 : Int) ≤ (x.toNat : Int)) := by have := HA.out i x hxl; omega
      have hx256 : (x.toNat : Int) < 256 := by have := HA.out i x hxl; omega
      have hcell := Lib.setCells_at (chars.data.toList.take i) x
      have Hx : Hid (chars.data.toList[i]? = some x) := hxl
      clear hxl
      go_wp2
      go_roundg g
      case measure => omega
      case rel => exact ⟨i + 1, by omega, by first | rfl | simp, by rw [List.take_add_one, Hx.out]; simp only [Option.toList]; rw [Lib.setCells_snoc]⟩

set_option maxHeartbeats 4000000 in
set_option maxRecDepth 1000000 in
theorem makeASCIISet_no (chars : ByteArray) (w : World) (hs : chars.size < 4294967281) (q : Nat) (hq : q < chars.size) (hbad : 128 ≤ (chars[q]'hq).toNat) :
    Calls Tryd.prog 65 #[.string chars] w fun e w' => ∃ l, e = .returned (.tuple #[.agg (Lib.setCells l), .bool false]) ∧ w' = w.alloc (.cells (Lib.setCells l) 73) := by
  have v38 := hvSet
  have HQ : Hid (128 ≤ (chars[q]'hq).toNat) := hbad
  clear hbad
  go_enter Tryd.func65, Tryd.ntmps65
  go_wp2
  rw [← Lib.setCells_nil]
  go_loopg [4] chars.size (fun g s4 wx => ∃ i : Nat, i + g = chars.size ∧ i ≤ q ∧ s4 = .int .i64 i ∧ wx = w.alloc (.cells (Lib.setCells (chars.data.toList.take i)) 73))
  case atStart => exact ⟨0, by omega, by omega, rfl, rfl⟩
  case round =>
    obtain ⟨i, hig, hiq, rfl, rfl⟩ := hrel
    have hi : i < chars.size := by omega
    have hiz : (i : Int) < (chars.size : Int) := by omega
    obtain ⟨x, hx⟩ : ∃ x : UInt8, chars[i]'hi = x := ⟨_, rfl⟩
    by_cases hb : 128 ≤ x.toNat
    · have hbz : (128 : Int) ≤ (x.toNat : Int) := by omega
      have hld := run_loadVar_new (P := Tryd.prog) w 73 (Lib.setCells (chars.data.toList.take i)) 256 4 Tryd.underlying73 (by rw [Lib.setCells_size]; exact hiSet)
      have hsz := Lib.setCells_size (chars.data.toList.take i)
      go_wp2_with (first | (refine wpList_load_row rfl 73 _ rfl w.heap.size rfl 73 (Lib.setCells (chars.data.toList.take i)) (0, 0) _ (heap_alloc_last _ _) Tryd.underlying73 rfl (by rw [Lib.setCells_size]; exact hiSet) ?_) | (refine wpList_store_row rfl 73 _ _ rfl w.heap.size (Lib.setCells (chars.data.toList.take i)) rfl rfl 73 (Lib.setCells (chars.data.toList.take i)) (heap_alloc_last _ _) (by rw [Lib.setCells_size]; exact hiSet) rfl (Lib.setCells_one _) ?_; rw [World.setRow_alloc_new]))
      (try simp only [Exit.inBlock, Exit.then])
      refine bodyPost_ret (v := .tuple #[.agg (Lib.setCells (chars.data.toList.take i)), .bool false]) ?_ rfl ⟨_, rfl, rfl⟩
      rw [results_cell_tmp rfl]
      simp [asAddr, Result.andThen, hld]
    · have hxl : chars.data.toList[i]? = some x := by rw [← hx]; exact Lib.data_getElem? chars i hi
      have hx128 : ¬ ((128 : Int) ≤ (x.toNat : Int)) := by omega
      have hx256 : (x.toNat : Int) < 256 := by omega
      have hiq' : i ≠ q := by
        rintro rfl
        have := HQ.out
        rw [hx] at this
        omega
      have hcell := Lib.setCells_at (chars.data.toList.take i) x
      have Hx : Hid (chars.data.toList[i]? = some x) := hxl
      clear hxl
      go_wp2
      go_roundg (gk - 1)
      case measure => omega
      case rel => exact ⟨i + 1, by omega, by omega, by first | rfl | simp, by rw [List.take_add_one, Hx.out]; simp only [Option.toList]; rw [Lib.setCells_snoc]⟩

set_option maxHeartbeats 2000000 in
set_option maxRecDepth 1000000 in
theorem asciiSet_contains (b : Nat) (x : UInt8) (v : Bool) (w : World) (hc : w.cell? ⟨b, x.toNat, none⟩ = some (.bool v)) :
    Calls Tryd.prog 66 #[.pointer (some ⟨b, 0, none⟩), .int .u8 x.toNat] w fun e w' => e = .returned (.bool v) ∧ w' = w := by
  have hx256 : (x.toNat : Int) < 256 := by have := UInt8.toNat_lt x; omega
  go_enter Tryd.func66, Tryd.ntmps66
  go_wp2
  go_ret
  exact ⟨rfl, rfl⟩
end Go.Proofs.YtblaldahhhokmaaDoor

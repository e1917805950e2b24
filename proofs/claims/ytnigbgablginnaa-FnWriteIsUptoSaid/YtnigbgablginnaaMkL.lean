/- Plain: the mapping of a generic replacer. -/
import Derived.Test.YtnigbgablginnaaTrF
import Derived.Test.YtnigbgablginnaaStrs
import Derived.Deep.MidRow
set_option linter.unusedVariables false
namespace Go.Proofs.Ytnigbgablginnaa
open Go.RowKit Go.Lib

/-- Whether a byte has been met. -/
def usedC (L : List UInt8) (c : Nat) : Nat := if c ∈ L.map UInt8.toNat then 1 else 0
theorem usedC_nil (c : Nat) : usedC [] c = 0 := rfl
theorem usedC_snoc (L : List UInt8) (b : UInt8) (c : Nat) : usedC (L ++ [b]) c = if c = b.toNat then 1 else usedC L c := by
  unfold usedC
  by_cases h : c = b.toNat
  · rw [if_pos h, if_pos (by simp [h])]
  · rw [if_neg h]
    by_cases h2 : c ∈ L.map UInt8.toNat
    · rw [if_pos h2, if_pos (by rw [List.map_append]; exact List.mem_append_left _ h2)]
    · rw [if_neg h2, if_neg (by rw [List.map_append, List.mem_append]; exact fun e => e.elim h2 (fun h3 => h (by simpa using h3)))]
theorem usedC_le (L : List UInt8) (c : Nat) : usedC L c = 0 ∨ usedC L c = 1 := by unfold usedC; split <;> simp
theorem usedC_mem {L : List UInt8} {b : UInt8} (h : b ∈ L) : usedC L b.toNat = 1 := by
  unfold usedC; rw [if_pos (List.mem_map_of_mem h)]
/-- How many have been met below k. -/
def cumC (f : Nat → Nat) : Nat → Nat
  | 0 => 0
  | k + 1 => cumC f k + f k
theorem cumC_le {f : Nat → Nat} (h : ∀ c, f c = 0 ∨ f c = 1) : ∀ k, cumC f k ≤ k
  | 0 => Nat.le_refl _
  | k + 1 => by have := cumC_le h k; have := h k; rw [cumC]; omega
theorem cumC_mono (f : Nat → Nat) {j k : Nat} (h : j ≤ k) : cumC f j ≤ cumC f k := by
  induction k with
  | zero => obtain rfl : j = 0 := by omega
            exact Nat.le_refl _
  | succ k ih =>
    rcases Nat.lt_or_eq_of_le h with h' | rfl
    · have := ih (by omega); rw [cumC]; omega
    · exact Nat.le_refl _
theorem cumC_room {f : Nat → Nat} (h : ∀ c, f c = 0 ∨ f c = 1) {c : Nat} (h0 : f c = 0) : ∀ {k : Nat}, c < k → cumC f k + 1 ≤ k
  | k + 1, hk => by
    rw [cumC]
    rcases Nat.lt_or_eq_of_le (Nat.le_of_lt_succ hk) with h' | rfl
    · have := cumC_room h h0 (k := k) h'; have := h k; omega
    · have := cumC_le h c; omega
/-- The mapping. -/
def mapC (f : Nat → Nat) (c : Nat) : Nat := if f c = 0 then cumC f 256 else cumC f c
theorem mapC_used {f : Nat → Nat} (h : ∀ c, f c = 0 ∨ f c = 1) {c : Nat} (hc : c < 256) (h1 : f c = 1) : mapC f c < cumC f 256 := by
  unfold mapC
  rw [if_neg (by omega)]
  have := cumC_mono f (j := c + 1) (k := 256) (by omega)
  rw [cumC, h1] at this
  omega
theorem mapC_free {f : Nat → Nat} {c : Nat} (h0 : f c = 0) : mapC f c = cumC f 256 := if_pos h0
theorem mapC_le {f : Nat → Nat} (h : ∀ c, f c = 0 ∨ f c = 1) {c : Nat} (hc : c < 256) : mapC f c ≤ 255 := by
  unfold mapC
  split
  · rename_i h0; have := cumC_room h h0 hc; omega
  · have := cumC_le h c; omega
theorem mapC_inj {f : Nat → Nat} (h : ∀ c, f c = 0 ∨ f c = 1) : Inj (fun c : UInt8 => mapC f c.toNat) (cumC f 256) := by
  intro c d hc0 e0
  have hc : mapC f c.toNat < cumC f 256 := hc0
  have e : mapC f d.toNat = mapC f c.toNat := e0
  have hc1 : f c.toNat = 1 := by
    rcases h c.toNat with h0 | h1
    · rw [mapC_free h0] at hc; omega
    · exact h1
  have hd1 : f d.toNat = 1 := by
    rcases h d.toNat with h0 | h1
    · rw [mapC_free h0] at e; omega
    · exact h1
  have e' : cumC f d.toNat = cumC f c.toNat := by
    unfold mapC at e
    rwa [if_neg (by omega), if_neg (by omega)] at e
  rcases Nat.lt_trichotomy c.toNat d.toNat with hl | hl | hl
  · have := cumC_mono f (j := c.toNat + 1) (k := d.toNat) hl
    rw [cumC, hc1] at this; omega
  · exact UInt8.toNat_inj.1 hl.symm
  · have := cumC_mono f (j := d.toNat + 1) (k := c.toNat) hl
    rw [cumC, hd1] at this; omega

/-- The bytes of the first k old texts. -/
def obytes (qs : List BB) (k : Nat) : List UInt8 := (qs.take k).flatMap fun q => q.1.data.toList
theorem obytes_zero (qs : List BB) : obytes qs 0 = [] := rfl
theorem obytes_succ {qs : List BB} {k : Nat} {q : BB} (h : qs[k]? = some q) : obytes qs (k + 1) = obytes qs k ++ q.1.data.toList := by
  unfold obytes; rw [List.take_add_one, h]; simp
theorem obytes_mem {qs : List BB} {k K : Nat} {q : BB} (h : qs[k]? = some q) (hK : k < K) {b : UInt8} (hb : b ∈ q.1.data.toList) : b ∈ obytes qs K := by
  unfold obytes
  rw [List.mem_flatMap]
  exact ⟨q, List.mem_of_getElem? (i := k) (by rw [List.getElem?_take_of_lt hK]; exact h), hb⟩

/-- A replacer under way. -/
structure GenAt (w : World) (g : Nat) (tbl : Value) (n : Nat) (f : Nat → Nat) : Prop where
  node : NodeAt w g ByteArray.empty 0 ByteArray.empty (.pointer none) tbl
  sz : w.cell? ⟨g, 5, none⟩ = some (.int .i64 n)
  mp : ∀ c, c < 256 → w.cell? ⟨g, 6 + c, none⟩ = some (.int .u8 (f c : Nat))
section gen
variable {w : World} {g : Nat} {tbl : Value} {n : Nat} {f : Nat → Nat}
theorem GenAt.block (h : GenAt w g tbl n f) {w' : World} (e : w'.heap[g]? = w.heap[g]?) : GenAt w' g tbl n f :=
  ⟨h.node.same e, (World.cell?_of_block (w := w) e).trans h.sz, fun c hc => (World.cell?_of_block (w := w) e).trans (h.mp c hc)⟩
theorem GenAt.drewN (h : GenAt w g tbl n f) (k : Nat) : GenAt (w.drewN k) g tbl n f := h.block rfl
theorem GenAt.drew (h : GenAt w g tbl n f) : GenAt w.drew g tbl n f := h.block rfl
theorem GenAt.alloc (h : GenAt w g tbl n f) (o : Obj) : GenAt (w.alloc o) g tbl n f := h.block (Below.heap_alloc _ _ _ h.node.lt)
theorem node_far (h : NodeAt w g ByteArray.empty 0 ByteArray.empty (.pointer none) tbl) (o : Nat) (ho : 5 ≤ o) (u : Value) : NodeAt (w.setCell ⟨g, o, none⟩ u) g ByteArray.empty 0 ByteArray.empty (.pointer none) tbl := by
  have hne : ∀ x, x < 5 → (⟨g, o, none⟩ : Addr) ≠ ⟨g, x, none⟩ := fun x hx e => by have := congrArg Addr.off e; simp at this; omega
  exact ⟨(World.cell?_setCell_other _ _ _ _ (hne 0 (by decide))).trans h.c0, (World.cell?_setCell_other _ _ _ _ (hne 1 (by decide))).trans h.c1, (World.cell?_setCell_other _ _ _ _ (hne 2 (by decide))).trans h.c2, (World.cell?_setCell_other _ _ _ _ (hne 3 (by decide))).trans h.c3, (World.cell?_setCell_other _ _ _ _ (hne 4 (by decide))).trans h.c4, fun o => by rw [World.frozen?_setCell]; exact h.nf o⟩
theorem GenAt.setMap (h : GenAt w g tbl n f) (k x : Nat) (hk : k < 256) : GenAt (w.setCell ⟨g, 6 + k, none⟩ (.int .u8 x)) g tbl n (fun c => if c = k then x else f c) := by
  refine ⟨node_far h.node _ (by omega) _, ?_, fun c hc => ?_⟩
  · rw [World.cell?_setCell_other _ _ _ _ (fun e => by have := congrArg Addr.off e; simp at this; omega)]; exact h.sz
  · by_cases e : c = k
    · subst e; rw [if_pos rfl]; exact World.cell?_setCell_same _ _ _ (h.mp c hc)
    · rw [if_neg e, World.cell?_setCell_other _ _ _ _ (fun e2 => e (by have := congrArg Addr.off e2; simp at this; omega))]; exact h.mp c hc
theorem GenAt.setSz (h : GenAt w g tbl n f) (x : Nat) : GenAt (w.setCell ⟨g, 5, none⟩ (.int .i64 x)) g tbl x f := by
  refine ⟨node_far h.node _ (by omega) _, World.cell?_setCell_same _ _ _ h.sz, fun c hc => ?_⟩
  rw [World.cell?_setCell_other _ _ _ _ (fun e => by have := congrArg Addr.off e; simp at this; omega)]; exact h.mp c hc
theorem GenAt.setTbl (h : GenAt w g tbl n f) (u : Value) : GenAt (w.setCell ⟨g, 4, none⟩ u) g u n f := by
  refine ⟨h.node.set4 u, ?_, fun c hc => ?_⟩
  · rw [World.cell?_setCell_other _ _ _ _ (by simp)]; exact h.sz
  · rw [World.cell?_setCell_other _ _ _ _ (fun e => by have := congrArg Addr.off e; simp at this; omega)]; exact h.mp c hc
theorem GenAt.congr (h : GenAt w g tbl n f) {f' : Nat → Nat} (e : ∀ c, c < 256 → f c = f' c) : GenAt w g tbl n f' := ⟨h.node, h.sz, fun c hc => e c hc ▸ h.mp c hc⟩
/-- The mapping as a row of cells. -/
def mapCells (f : Nat → Nat) : List Value := (List.range 256).map fun c => .int .u8 (f c : Nat)
theorem mapCells_len (f : Nat → Nat) : (mapCells f).length = 256 := by simp [mapCells]
theorem mapCells_at (f : Nat → Nat) (c : Nat) (hc : c < 256) : (mapCells f)[c]? = some (.int .u8 (f c : Nat)) := by simp [mapCells, hc]
theorem GenAt.range (h : GenAt w g tbl n f) : w.rangeAt g 6 (mapCells f) := fun j v hv => by
  have hj := (List.getElem?_eq_some_iff.1 hv).1
  rw [mapCells_len] at hj
  rw [mapCells_at f j hj] at hv
  obtain rfl := Option.some.inj hv
  exact h.mp j hj
end gen

theorem zeroG : Try.zeroCells80 = #[.string ByteArray.empty, .int .i64 0, .string ByteArray.empty, .pointer none, .slice none 0 0, .int .i64 0] ++ Array.replicate 256 (Value.int .u8 0) := by kernel_rfl
theorem zeroG_at (c : Nat) (hc : c < 256) : Try.zeroCells80[6 + c]? = some (.int .u8 0) := by
  rw [zeroG, Array.getElem?_append_right (by simp)]
  simp [hc]
theorem zeroG_lo (o : Nat) (v : Value) (h : (#[Value.string ByteArray.empty, .int .i64 0, .string ByteArray.empty, .pointer none, .slice none 0 0, .int .i64 0] : Array Value)[o]? = some v) : Try.zeroCells80[o]? = some v := by
  rw [zeroG, Array.getElem?_append_left (Array.getElem?_eq_some_iff.1 h).1]; exact h
theorem gen_made (w : World) : GenAt (w.alloc (.cells Try.zeroCells80 80)) w.heap.size (.slice none 0 0) 0 (fun _ => 0) := by
  have h := heap_alloc_new w (.cells Try.zeroCells80 80)
  refine ⟨⟨?_, ?_, ?_, ?_, ?_, fun o => frozen_of_row _ _ o _ _ h⟩, ?_, fun c hc => ?_⟩
  · rw [cell_of_row _ _ 0 _ _ _ h]; exact zeroG_lo 0 _ rfl
  · rw [cell_of_row _ _ 1 _ _ _ h]; exact zeroG_lo 1 _ rfl
  · rw [cell_of_row _ _ 2 _ _ _ h]; exact zeroG_lo 2 _ rfl
  · rw [cell_of_row _ _ 3 _ _ _ h]; exact zeroG_lo 3 _ rfl
  · rw [cell_of_row _ _ 4 _ _ _ h]; exact zeroG_lo 4 _ rfl
  · rw [cell_of_row _ _ 5 _ _ _ h]; exact zeroG_lo 5 _ rfl
  · rw [cell_of_row _ _ (6 + c) _ _ _ h, zeroG_at c hc]; rfl

theorem u8Info : (Try.prog.info? 5).map (fun i => (i.zero, i.size, i.bytes)) = some (some (.int .u8 0), 1, 1) := by kernel_rfl
theorem run_index_u8 (cs : List Value) (i : Nat) (v : Value) (h : cs[i]? = some v) (hi : i < 256) (W : World) : (Instr.index 78 (.agg cs.toArray) (.int .i64 i)).run Try.prog W = .ok v W := by
  obtain ⟨i0, h0, hz0, hz1, hz2⟩ := info_parts u8Info
  simp [Instr.index, run_underlying Try.underlying78, run_underlying Try.underlying5, asIntOf, sizeOf, typeInfo, h0, hz1, part, isAgg, go_sem]
  rw [if_pos hi, h]; rfl
end Go.Proofs.Ytnigbgablginnaa

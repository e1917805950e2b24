/- (*appendSliceWriter).WriteString. -/
import Derived.Test.YtnigbgablginnaaBldS
import Derived.Lib.AppendStr
import Derived.Lib.UnsafeStr
set_option linter.unusedVariables false
namespace Go.Proofs.Ytnigbgablginnaa
open Go.RowKit Go.Lib

/-- The text that block Bf's one cell holds. -/
structure AswAt (w : World) (base Bf : Nat) (out : Bs) : Prop where
  c : ∃ v, w.cell? ⟨Bf, 0, none⟩ = some v ∧ w.ownsRow base 5 1 v out.length (Lib.byteCells out) ∧ v.oneCell' = true
  nf : ∀ o, w.frozen? ⟨Bf, o, none⟩ = false
  sh : ∃ m, w.shape? Bf = some (82, m)
  hb : base ≤ Bf
theorem AswAt.lt {w : World} {base Bf : Nat} {out : Bs} (h : AswAt w base Bf out) : Bf < w.heap.size := by
  obtain ⟨v, hv, _⟩ := h.c
  exact World.block_lt_of_cell? _ _ hv
theorem own_apart2 {w : World} {base : Nat} {e t : TypeId} {v : Value} {n : Nat} {xs : List Value} (h : w.ownsRow base e 1 v n xs) {b m : Nat} (hb : w.shape? b = some (t, m)) (hne : t ≠ e) : v.ownBlock ≠ some b := fun h2 => by
  obtain ⟨k, hk⟩ := own_shape h h2
  rw [hb] at hk
  exact hne (congrArg Prod.fst (Option.some.inj hk))
theorem AswAt.below {w w' : World} {base Bf : Nat} {out : Bs} (h : AswAt w base Bf out) (hb : Below w.heap.size w w') : AswAt w' base Bf out := by
  have hl := h.lt
  obtain ⟨v, hv, hr, h1⟩ := h.c
  exact ⟨⟨v, (hb.cell (p := ⟨Bf, 0, none⟩) hl).trans hv, ownsRow_bel hr hb, h1⟩, fun o => (hb.frozen (p := ⟨Bf, o, none⟩) hl).trans (h.nf o), by unfold World.shape?; rw [hb.block Bf hl]; exact h.sh, h.hb⟩
def Wrote (base Bf : Nat) (out : Bs) (s : ByteArray) (w : World) (e : Ending) (w' : World) : Prop := e = .returned (.tuple #[.int .i64 s.size, .nilIface]) ∧ AswAt w' base Bf (out ++ s.data.toList) ∧ Below base w w'
theorem u8Info2 : (Try.prog.info? 5).map (fun i => (i.zero, i.size, i.bytes)) = some (some (.int .u8 0), 1, 1) := by kernel_rfl

set_option maxRecDepth 100000 in
set_option maxHeartbeats 1000000 in
theorem aswWrite (base Bf : Nat) (out : Bs) (s : ByteArray) (w : World) (h : AswAt w base Bf out) (hbs : base ≤ w.heap.size) (hz : out.length + s.size ≤ 140737488355328) :
    Calls Try.prog 92 #[at0 Bf, .string s] w (Wrote base Bf out s w) := by
  have hl := h.lt
  obtain ⟨v, cv, hr, h1⟩ := h.c
  have f0 := h.nf 0
  have HR := Lib.hid hr
  have HH := Lib.hid h
  have HCV := Lib.hid cv
  obtain ⟨i0, hi, hz0, hz1, hz2⟩ := info_parts u8Info2
  have hmx : out.length + s.size ≤ maxLen := by unfold maxLen; omega
  obtain ⟨A, n, c, rfl⟩ : ∃ A n c, v = .slice A n c := by
    rcases hr.2 with ⟨rfl, _⟩ | ⟨g, cap, cur, rfl, _⟩
    · exact ⟨_, _, _, rfl⟩
    · exact ⟨_, _, _, rfl⟩
  clear hr h
  go_enter Try.func92, Try.ntmps92
  go_wp2_with (at_builtin; refine Lib.wpList_append_own_string _ rfl _ _ 82 9 rfl base 5 i0 Try.underlying82 Try.underlying9 hi hz0 hz1 hz2 _ _ _ rfl HR.out s rfl hmx hz hbs ?_; intro v' w1 hown hgrow _; have hap : Value.ownBlock (.slice A n c) ≠ some Bf := (by obtain ⟨m, hm⟩ := HH.out.sh; exact own_apart2 HR.out hm (by decide)); have hblk : w1.heap[Bf]? = w.heap[Bf]? := hgrow.block Bf hl (fun e => hap e.symm); have k0 : w1.cell? ⟨Bf, 0, none⟩ = some (.slice A n c) := (World.cell?_of_block (w := w) hblk).trans HCV.out; have g0 : w1.frozen? ⟨Bf, 0, none⟩ = false := (World.frozen?_of_block (w := w) hblk).trans f0; have hsh : ∃ m, w1.shape? Bf = some (82, m) := (by unfold World.shape?; rw [hblk]; exact HH.out.sh); have HSH := Lib.hid hsh; have HB1 : Hid (Below base w w1) := Lib.hid ((Below.refl base w).grown hgrow hbs (fun k e => (HR.out.lt k e).1)); have HO := Lib.hid hown; have HK0 := Lib.hid k0; have HFZ : Hid (∀ o, w1.frozen? ⟨Bf, o, none⟩ = false) := Lib.hid (fun o => (World.frozen?_of_block (w := w) hblk).trans (HH.out.nf o)); obtain ⟨A', n', c', rfl⟩ : ∃ A' n' c', v' = .slice A' n' c' := (by rcases hown.2 with ⟨rfl, _⟩ | ⟨g, cap, cur, rfl, _⟩; exact ⟨_, _, _, rfl⟩; exact ⟨_, _, _, rfl⟩); clear hap hblk hsh hown hgrow)
  go_ret2
  have hap' : Value.ownBlock (.slice A' n' c') ≠ some Bf := by obtain ⟨m, hm⟩ := HSH.out; exact own_apart2 HO.out hm (by decide)
  refine ⟨rfl, ⟨⟨_, World.cell?_setCell_same _ _ _ HK0.out, ?_, rfl⟩, fun o => by rw [World.frozen?_setCell]; exact HFZ.out o, by rw [shape_set]; exact HSH.out, HH.out.hb⟩, HB1.out.setCell HH.out.hb _⟩
  have hlen : (out ++ s.data.toList).length = out.length + s.size := by rw [List.length_append, ← Lib.size_eq]
  rw [hlen, Lib.byteCells_append, ← Lib.strCells_eq]
  exact HO.out.kept (row := some Bf) (grownBy_set _ _ _ _) (.inr hap')
end Go.Proofs.Ytnigbgablginnaa

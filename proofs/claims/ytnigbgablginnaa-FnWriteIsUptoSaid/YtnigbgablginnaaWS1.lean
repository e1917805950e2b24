/- WsL Snk SwW (merged by merge.py). -/
import Derived.Test.YtnigbgablginnaaGenL
import Derived.Test.YtnigbgablginnaaAnyR
import Derived.Test.YtnigbgablginnaaReg
import Derived.Deep.QuietTactic
import Derived.BigQuiet
import Derived.Stop.Asserts
/- Plain: bytes exchanged one by one, written piece by piece. -/
set_option linter.unusedVariables false
namespace Go.Proofs.Ytnigbgablginnaa
open Go.Lib

structure PI (g : UInt8 → Bs) (s out : Bs) (last i : Nat) : Prop where
  le : last ≤ i
  len : i ≤ s.length
  eq : out ++ (s.drop last).take (i - last) = (s.take i).flatMap g
theorem PI.zero (g : UInt8 → Bs) (s : Bs) : PI g s [] 0 0 := ⟨Nat.le_refl _, Nat.zero_le _, by simp⟩
theorem PI.keep {g : UInt8 → Bs} {s out : Bs} {last i : Nat} {c : UInt8} (h : PI g s out last i) (hc : s[i]? = some c) (hg : g c = [c]) : PI g s out last (i + 1) := by
  obtain ⟨hi, he⟩ := List.getElem?_eq_some_iff.1 hc
  refine ⟨Nat.le_succ_of_le h.le, hi, ?_⟩
  rw [piece_succ s last i c (s.drop (i + 1)) h.le (by rw [List.drop_eq_getElem_cons hi, he]), flatMap_take_succ g s i c hc, hg, ← List.append_assoc, h.eq]
theorem PI.hit {g : UInt8 → Bs} {s out : Bs} {last i : Nat} {c : UInt8} (h : PI g s out last i) (hc : s[i]? = some c) : PI g s (out ++ (s.drop last).take (i - last) ++ g c) (i + 1) (i + 1) := by
  obtain ⟨hi, he⟩ := List.getElem?_eq_some_iff.1 hc
  refine ⟨Nat.le_refl _, hi, ?_⟩
  rw [flatMap_take_succ g s i c hc, h.eq, Nat.sub_self, List.take_zero, List.append_nil]
theorem PI.done {g : UInt8 → Bs} {s out : Bs} {last i : Nat} (h : PI g s out last i) (hi : s.length ≤ i) : out ++ s.drop last = s.flatMap g := by
  have h1 := h.eq
  have : i = s.length := Nat.le_antisymm h.len hi
  subst this
  rw [List.take_of_length_le (by rw [List.length_drop]; omega), List.take_of_length_le (Nat.le_refl _)] at h1
  exact h1
theorem PI.room {g : UInt8 → Bs} {s out : Bs} {last i : Nat} (h : PI g s out last i) : out.length + (i - last) ≤ (s.flatMap g).length := by
  have h1 := congrArg List.length h.eq
  rw [List.length_append, List.length_take, List.length_drop, Nat.min_eq_left (by have := h.len; omega)] at h1
  have h2 : s.flatMap g = (s.take i).flatMap g ++ (s.drop i).flatMap g := by rw [← List.flatMap_append, List.take_append_drop]
  rw [h1, h2, List.length_append]; omega
end Go.Proofs.Ytnigbgablginnaa

/- impl.sink: its Write; what a write touches. -/
set_option linter.unusedVariables false
namespace Go.Proofs.Ytnigbgablginnaa
open Go.RowKit Go.Lib

/-- Nothing below rb has turned but block Bf. -/
structure Eff (Bf rb : Nat) (w w' : World) : Prop where
  os : w'.os = w.os
  tape : w'.tape = w.tape
  output : w'.output = w.output
  size : w.heap.size ≤ w'.heap.size
  block : ∀ b, b < rb → b ≠ Bf → w'.heap[b]? = w.heap[b]?
theorem Eff.refl (Bf rb : Nat) (w : World) : Eff Bf rb w w := ⟨rfl, rfl, rfl, Nat.le_refl _, fun _ _ _ => rfl⟩
theorem Eff.trans {Bf rb : Nat} {a b c : World} (h : Eff Bf rb a b) (k : Eff Bf rb b c) : Eff Bf rb a c := ⟨k.os.trans h.os, k.tape.trans h.tape, k.output.trans h.output, Nat.le_trans h.size k.size, fun i h1 h2 => (k.block i h1 h2).trans (h.block i h1 h2)⟩
theorem Eff.of {Bf rb B : Nat} {a b : World} (h : Below B a b) (hB : rb ≤ B) : Eff Bf rb a b := ⟨h.os, h.tape, h.output, h.size, fun i h1 _ => h.block i (by omega)⟩
theorem Eff.below {Bf rb B : Nat} {a b : World} (h : Eff Bf rb a b) (h1 : B ≤ Bf) (h2 : B ≤ rb) : Below B a b := ⟨h.os, h.tape, h.output, h.size, fun i hi => h.block i (by omega) (by omega)⟩
theorem Eff.cell {Bf rb : Nat} {a b : World} (h : Eff Bf rb a b) {i o : Nat} (h1 : i < rb) (h2 : i ≠ Bf) : b.cell? ⟨i, o, none⟩ = a.cell? ⟨i, o, none⟩ := World.cell?_of_block (h.block i h1 h2)
theorem Eff.set {Bf rb : Nat} {a b : World} (h : Eff Bf rb a b) (o : Nat) (x : Value) : Eff Bf rb a (b.setCell ⟨Bf, o, none⟩ x) := ⟨h.os, h.tape, h.output, by simpa using h.size, fun i h1 h2 => (Below.heap_setCell _ _ _ _ h2).trans (h.block i h1 h2)⟩

/-- A sink that takes all, in block Bf, below the row of what it has taken. -/
structure SnkAt (w : World) (base Bf : Nat) (out : Bs) : Prop where
  c : ∃ v, w.cell? ⟨Bf, 0, none⟩ = some v ∧ w.ownsRow base 5 1 v out.length (Lib.byteCells out) ∧ v.oneCell' = true
  b1 : w.cell? ⟨Bf, 1, none⟩ = some (.bool false)
  nf : ∀ o, w.frozen? ⟨Bf, o, none⟩ = false
  hb : Bf < base
theorem SnkAt.lt {w : World} {base Bf : Nat} {out : Bs} (h : SnkAt w base Bf out) : Bf < w.heap.size := World.block_lt_of_cell? _ _ h.b1
theorem SnkAt.below {w w' : World} {base Bf : Nat} {out : Bs} (h : SnkAt w base Bf out) (hb : Below w.heap.size w w') : SnkAt w' base Bf out := by
  have hl := h.lt
  obtain ⟨v, hv, hr, h1⟩ := h.c
  exact ⟨⟨v, (hb.cell (p := ⟨Bf, 0, none⟩) hl).trans hv, ownsRow_bel hr hb, h1⟩, (hb.cell (p := ⟨Bf, 1, none⟩) hl).trans h.b1, fun o => (hb.frozen (p := ⟨Bf, o, none⟩) hl).trans (h.nf o), h.hb⟩
def SWrote (base Bf : Nat) (out : Bs) (t : ByteArray) (w : World) (e : Ending) (w' : World) : Prop := e = .returned (.tuple #[.int .i64 t.size, .nilIface]) ∧ SnkAt w' base Bf (out ++ t.data.toList) ∧ Eff Bf base w w'
set_option maxRecDepth 100000 in
set_option maxHeartbeats 2000000 in
theorem snkWrite (base Bf : Nat) (out : Bs) (t : ByteArray) (g o c : Nat) (w : World) (h : SnkAt w base Bf out) (hp : Lib.Bytes w g o t) (hbs : base ≤ w.heap.size) (hz : out.length + t.size ≤ 140737488355328) :
    Calls Try.prog 87 #[at0 Bf, .slice (some ⟨g, o, none⟩) t.size c] w (SWrote base Bf out t w) := by
  have hl := h.lt
  obtain ⟨v, cv, hr, h1⟩ := h.c
  have c1 := h.b1
  have HH := Lib.hid h
  have HP := Lib.hid hp
  have HCV := Lib.hid cv
  have HR := Lib.hid hr
  obtain ⟨i0, hi, hz0, hz1, hz2⟩ := info_parts u8Info2
  have hmx : out.length + t.size ≤ maxLen := by unfold maxLen; omega
  obtain ⟨A, n, c', rfl⟩ : ∃ A n c', v = .slice A n c' := by
    rcases hr.2 with ⟨rfl, _⟩ | ⟨g, cap, cur, rfl, _⟩
    · exact ⟨_, _, _, rfl⟩
    · exact ⟨_, _, _, rfl⟩
  have HAP : Hid (Value.ownBlock (.slice A n c') ≠ some Bf) := Lib.hid (fun e => by have := (hr.lt _ e).1; have := h.hb; omega)
  clear hr h hp
  go_enter Try.func87, Try.ntmps87
  go_wp2_with fail
  go_quiet (fail)
  generalize hW1 : World.drewN w _ = W1
  have HB1 : Hid (Below w.heap.size w W1) := Lib.hid (by rw [← hW1]; exact bDr _ _ _)
  clear hW1 c1 cv
  have hl1 : Bf < W1.heap.size := Nat.lt_of_lt_of_le hl HB1.out.size
  have k0 : W1.cell? ⟨Bf, 0, none⟩ = some (.slice A n c') := (HB1.out.cell (p := ⟨Bf, 0, none⟩) hl).trans HCV.out
  have HR1 := Lib.hid (ownsRow_bel HR.out HB1.out)
  have HN1 : Hid (∀ j u, (Lib.byteCells t.data.toList)[j]? = some u → W1.cell? (Addr.add ⟨g, o, none⟩ j) = some u) := Lib.hid (fun j u hu => by
    rw [Lib.byteCells, List.getElem?_map] at hu
    cases hj : t.data.toList[j]? with
    | none => rw [hj] at hu; cases hu
    | some x =>
      rw [hj] at hu
      obtain ⟨hjl, hx⟩ := List.getElem?_eq_some_iff.1 hj
      have hjt : j < t.size := by rw [Lib.size_eq]; exact hjl
      have hc := HP.out j hjt
      rw [Addr.add_mid, HB1.out.cell (p := ⟨g, o + j, none⟩) (World.block_lt_of_cell? _ _ hc), hc, ← Option.some.inj hu, ← hx]
      rfl)
  have HL1 : Hid ((Lib.byteCells t.data.toList).length = t.size * 1) := Lib.hid (by rw [Lib.byteCells_length, ← Lib.size_eq]; omega)
  have HO1 : Hid (∀ u ∈ Lib.byteCells t.data.toList, u.oneCell' = true) := Lib.hid (fun u hu => by
    obtain ⟨x, _, rfl⟩ := List.mem_map.1 hu; rfl)
  have hbs1 : base ≤ W1.heap.size := Nat.le_trans hbs HB1.out.size
  go_wp2_with (at_builtin; refine wpList_append_own _ rfl _ _ 41 rfl base 5 i0 (.int .u8 0) 1 1 Try.underlying41 hi hz0 hz1 hz2 rfl (by decide) _ _ _ rfl HR1.out ⟨g, o, none⟩ t.size c (Lib.byteCells t.data.toList) rfl HL1.out HN1.out HO1.out hmx (by omega) hbs1 ?_; intro v' w2 hown hgrow _; have hblk : w2.heap[Bf]? = W1.heap[Bf]? := hgrow.block Bf hl1 (fun e => HAP.out e.symm); have k2 : w2.cell? ⟨Bf, 0, none⟩ = some (.slice A n c') := (World.cell?_of_block (w := W1) hblk).trans k0; have HFZ : Hid (∀ o, w2.frozen? ⟨Bf, o, none⟩ = false) := Lib.hid (fun o => (World.frozen?_of_block (w := W1) hblk).trans ((HB1.out.frozen (p := ⟨Bf, o, none⟩) hl).trans (HH.out.nf o))); have f2 := HFZ.out 0; have HC1 : Hid (w2.cell? ⟨Bf, 1, none⟩ = some (.bool false)) := Lib.hid ((World.cell?_of_block (w := W1) hblk).trans ((HB1.out.cell (p := ⟨Bf, 1, none⟩) hl).trans HH.out.b1)); have HE2 : Hid (Eff Bf base w w2) := Lib.hid ((Eff.of HB1.out hbs).trans ⟨hgrow.os, hgrow.tape, hgrow.output, hgrow.size, fun b h1 h2 => hgrow.block b (by omega) (fun e => by have := (HR1.out.lt b e.symm).1; omega)⟩); have HO := Lib.hid hown; have HK2 := Lib.hid k2; obtain ⟨A', n', c'', rfl⟩ : ∃ A' n' c'', v' = .slice A' n' c'' := (by rcases hown.2 with ⟨rfl, _⟩ | ⟨g, cap, cur, rfl, _⟩; exact ⟨_, _, _, rfl⟩; exact ⟨_, _, _, rfl⟩); clear hblk hown hgrow)
  go_ret2
  have hap' : Value.ownBlock (.slice A' n' c'') ≠ some Bf := fun e => by have := (HO.out.lt _ e).1; have := HH.out.hb; omega
  refine ⟨rfl, ⟨⟨_, World.cell?_setCell_same _ _ _ HK2.out, ?_, rfl⟩, (World.cell?_setCell_other _ _ _ _ (by simp)).trans HC1.out, fun o => by rw [World.frozen?_setCell]; exact HFZ.out o, HH.out.hb⟩, HE2.out.set _ _⟩
  have hlen : (out ++ t.data.toList).length = out.length + t.size := by rw [List.length_append, ← Lib.size_eq]
  rw [hlen, Lib.byteCells_append]
  exact HO.out.kept (row := some Bf) (grownBy_set _ _ _ _) (.inr hap')
end Go.Proofs.Ytnigbgablginnaa

/- The string writer over a sink: getStringWriter, (stringWriter).WriteString. -/
set_option linter.unusedVariables false
namespace Go.Proofs.Ytnigbgablginnaa
open Go.RowKit Go.Lib

/-- The sink as an io.Writer, and the string writer over it. -/
abbrev snkV (Bf : Nat) : Value := .iface 56 (at0 Bf)
abbrev swV (Bf : Nat) : Value := .iface 108 (.agg #[snkV Bf])
theorem snkLacks (v : Value) (xT : TypeId) (w : World) : (Instr.typeAssert (.iface 56 v) xT 102 true).run Try.prog w = .ok (.tuple #[.nilIface, .bool false]) w := run_typeAssert_lacksB Try.underlying102 (by kernel_rfl) (by kernel_rfl) v xT w
theorem getSnk (Bf : Nat) (w : World) : Calls Try.prog 65 #[snkV Bf] w fun e w' => e = .returned (swV Bf) ∧ w = w' := by
  have h := snkLacks
  go_enter Try.func65, Try.ntmps65
  go_wp2_with fail
  go_ret
  exact ⟨rfl, rfl⟩
theorem me_snk (B : Nat) (w : World) : (method 235 56 (at0 B) "Write").run Try.prog w = .ok (87, at0 B) w := by kernel_rfl
theorem na_snk (B : Nat) (w : World) : (nilAhead 235 56 (at0 B) "Write").run Try.prog w = .ok (some false) w := by kernel_rfl
theorem me_sw (B : Nat) (w : World) : (method 235 108 (.agg #[snkV B]) "WriteString").run Try.prog w = .ok (95, .agg #[snkV B]) w := by kernel_rfl
theorem na_sw (B : Nat) (w : World) : (nilAhead 235 108 (.agg #[snkV B]) "WriteString").run Try.prog w = .ok (some false) w := by kernel_rfl
set_option maxRecDepth 100000 in
set_option maxHeartbeats 2000000 in
theorem swWrite (base Bf : Nat) (out : Bs) (s : ByteArray) (w : World) (h : SnkAt w base Bf out) (hbs : base ≤ w.heap.size) (hz : out.length + s.size ≤ 140737488355328) :
    Calls Try.prog 95 #[.agg #[snkV Bf], .string s] w (SWrote base Bf out s w) := by
  have hb0 : Below w.heap.size w (w.alloc (.cells #[snkV Bf] 108)) := (Below.refl _ w).alloc (Nat.le_refl _) _
  have hb1 : Below w.heap.size w (cvW (w.alloc (.cells #[snkV Bf] 108)) s) := Bl.cv hb0 s
  have hcv := cv_run s (w.alloc (.cells #[snkV Bf] 108))
  have hby := cv_bytes s (w.alloc (.cells #[snkV Bf] 108)) _ rfl
  have hsw := snkWrite base Bf out s _ 0 (cvN (w.alloc (.cells #[snkV Bf] 108)) s) _ (h.below hb1) hby (Nat.le_trans hbs hb1.size) hz
  rw [show (w.alloc (.cells #[snkV Bf] 108)).heap.size = w.heap.size + 1 by simp] at hcv hsw
  have HE : Hid (Eff Bf base w (cvW (w.alloc (.cells #[snkV Bf] 108)) s)) := Lib.hid (Eff.of hb1 hbs)
  generalize cvW (w.alloc (.cells #[snkV Bf] 108)) s = W1 at hcv hsw HE
  generalize cvN (w.alloc (.cells #[snkV Bf] 108)) s = c1 at hcv hsw
  have HSW := Lib.hid hsw
  have hme := me_snk Bf
  clear h hb0 hb1 hby hsw
  go_enter Try.func95, Try.ntmps95
  go_wp2_with (go_at_call 87; (with_reducible refine HSW.out.mono ?_); rintro e w2 ⟨rfl, hA, hE⟩; have HA := Lib.hid hA; have HE2 := Lib.hid (HE.out.trans hE); clear hA hE)
  go_ret2
  exact ⟨rfl, HA.out, HE2.out⟩
end Go.Proofs.Ytnigbgablginnaa

/- MadeF RepWS (merged by merge.py). -/
import Derived.Test.YtnigbgablginnaaMade
import Derived.Test.YtnigbgablginnaaWS2
/- impl.made: the replacer, and where it lies. -/
set_option linter.unusedVariables false
namespace Go.Proofs.Ytnigbgablginnaa
open Go.RowKit Go.Lib

theorem RepFrom.mono {w : World} {b0 b1 R : Nat} {qs : List BB} {L : Nat} (h : RepFrom w b0 R qs L) (hb : b1 ≤ b0) : RepFrom w b1 R qs L := by
  obtain ⟨v, base, h1, h2, h3, h4, h5⟩ := h
  exact ⟨v, base, h1, h2, h3, Nat.le_trans hb h4, Nat.le_trans hb h5⟩
def MadeRF (qs : List BB) (L : Nat) (w : World) (e : Ending) (w' : World) : Prop := ∃ R, e = .returned (.tuple #[at0 R, .bool true]) ∧ RepFrom w' w.heap.size R qs L ∧ Below w.heap.size w w'
set_option maxRecDepth 100000 in
set_option maxHeartbeats 2000000 in
theorem madeF (xs : List ByteArray) (qs : List BB) (v : Value) (w : World) (hv : StrsAt w v xs) (hp : PairsOf xs qs) (hx : xs.length ≤ 2147483647) (hs : ∀ x ∈ xs, x.size ≤ 2147483647) :
    Calls Try.prog 42 #[v] w (MadeRF qs xs.length w) := by
  have hmf : ∀ (fn : Fn) (first cap : Array Value) (w : World), (Instr.makeFunc fn first cap).run Try.prog w = .ok (.func fn first cap) w := fun _ _ _ _ => rfl
  have hb0 : Below w.heap.size w (w.alloc (.cells #[.pointer none] 50)) := (Below.refl _ w).alloc (Nat.le_refl _) _
  have hb1 : Below w.heap.size w ((w.alloc (.cells #[.pointer none] 50)).alloc (.cells #[.bool false] 4)) := hb0.alloc (by simp) _
  have hC : Calls Try.prog 53 #[v] ((w.alloc (.cells #[.pointer none] 50)).alloc (.cells #[.bool false] 4)) (fun e w1 => ∃ R, e = .returned (at0 R) ∧ RepFrom w1 (w.heap.size + 2) R qs xs.length ∧ Below w.heap.size w w1 ∧ w1.cell? ⟨w.heap.size, 0, none⟩ = some (.pointer none) ∧ w1.cell? ⟨w.heap.size + 1, 0, none⟩ = some (.bool false) ∧ w1.frozen? ⟨w.heap.size, 0, none⟩ = false ∧ w1.frozen? ⟨w.heap.size + 1, 0, none⟩ = false) := by
    have hr0 := heap_alloc_new w (.cells #[.pointer none] 50)
    have hr1 := heap_alloc_new (w.alloc (.cells #[.pointer none] 50)) (.cells #[.bool false] 4)
    have hr0' := (Below.refl _ (w.alloc (.cells #[.pointer none] 50))).alloc (Nat.le_refl _) (.cells #[.bool false] 4)
    generalize hW1 : w.alloc (.cells #[.pointer none] 50) = W1 at hb0 hb1 hr0 hr1 hr0' ⊢
    have hs1 : W1.heap.size = w.heap.size + 1 := by rw [← hW1]; simp
    have hs2 : (W1.alloc (.cells #[.bool false] 4)).heap.size = w.heap.size + 2 := by simp [hs1]
    generalize hW2 : W1.alloc (.cells #[.bool false] 4) = W2 at hb1 hr1 hr0' hs2 ⊢
    refine (newRepF xs qs v W2 (hv.below hb1) hp hx hs).mono ?_
    rintro e w1 ⟨R, rfl, hR, hB⟩
    rw [hs2] at hR hB
    have e0 : w1.heap[w.heap.size]? = some _ := (hB.block _ (by omega)).trans ((hr0'.block _ (by omega)).trans hr0)
    have e1 : w1.heap[w.heap.size + 1]? = some _ := (hB.block _ (by omega)).trans (hs1 ▸ hr1)
    exact ⟨R, rfl, hR, hb1.trans (hB.mono (by omega)), by rw [cell_of_row _ _ 0 _ _ _ e0]; rfl, by rw [cell_of_row _ _ 0 _ _ _ e1]; rfl, frozen_of_row _ _ 0 _ _ e0, frozen_of_row _ _ 0 _ _ e1⟩
  have HC := Lib.hid hC
  clear hv hp hx hs hb0 hb1 hC
  go_enter_defers Try.func42, Try.ntmps42
  go_wp2_with (go_at_call 53; (with_reducible refine HC.out.mono ?_); rintro e w1 ⟨R, rfl, hR, hB, k0, k1, f0, f1⟩; have HR := Lib.hid hR; have HB := Lib.hid hB; clear hR hB)
  have hl1 : w.heap.size + 1 < w1.heap.size := World.block_lt_of_cell? _ _ k1
  refine leaves_cons (f := 52) (args := #[.pointer (some ⟨w.heap.size, 0, none⟩), .pointer (some ⟨w.heap.size + 1, 0, none⟩)]) (by simp) (by simp [go_sem]) ?_
  refine (catch_idle ⟨w.heap.size, 0, none⟩ ⟨w.heap.size + 1, 0, none⟩ _).mono ?_
  rintro e u' w'' ⟨rfl, rfl, rfl⟩
  have c1 : ((w1.setCell ⟨w.heap.size, 0, none⟩ (.pointer (some ⟨R, 0, none⟩))).setCell ⟨w.heap.size + 1, 0, none⟩ (.bool true)).cell? ⟨w.heap.size + 1, 0, none⟩ = some (.bool true) := World.cell?_setCell_same _ _ _ ((World.cell?_setCell_other _ _ _ _ (by simp)).trans k1)
  have c0 : ((w1.setCell ⟨w.heap.size, 0, none⟩ (.pointer (some ⟨R, 0, none⟩))).setCell ⟨w.heap.size + 1, 0, none⟩ (.bool true)).cell? ⟨w.heap.size, 0, none⟩ = some (at0 R) := (World.cell?_setCell_other _ _ _ _ (by simp)).trans (World.cell?_setCell_same _ _ _ k0)
  have hfin : MadeRF qs xs.length w (.returned (.tuple #[at0 R, .bool true])) ((w1.setCell ⟨w.heap.size, 0, none⟩ (.pointer (some ⟨R, 0, none⟩))).setCell ⟨w.heap.size + 1, 0, none⟩ (.bool true)) :=
    ⟨R, rfl, ((HR.out.set _ _ (by simp)).set _ _ (by simp)).mono (by omega), (HB.out.setCell (Nat.le_refl _) _).setCell (by simp) _⟩
  generalize (w1.setCell ⟨w.heap.size, 0, none⟩ (.pointer (some ⟨R, 0, none⟩))).setCell ⟨w.heap.size + 1, 0, none⟩ (.bool true) = W at c1 c0 hfin ⊢
  simp [Leaves, settle, results, Try.results42, go_sem, c0, c1]
  exact hfin
end Go.Proofs.Ytnigbgablginnaa

/- (*Replacer).WriteString into a sink, whatever the kind. -/
set_option linter.unusedVariables false
namespace Go.Proofs.Ytnigbgablginnaa
open Go.RowKit Go.Lib

theorem methW_bytes (B : Nat) (w : World) : (method 235 69 (at0 B) "WriteString").run Try.prog w = .ok (90, at0 B) w := by kernel_rfl
set_option maxRecDepth 100000 in
set_option maxHeartbeats 1000000 in
theorem repW_bytes (R B Bf : Nat) (out : Bs) (s : ByteArray) (w : World) (hc : w.cell? ⟨R, 0, none⟩ = some (.iface 69 (at0 B))) (hk : Calls Try.prog 90 #[at0 B, snkV Bf, .string s] w (GwS w.heap.size Bf out w)) :
    Calls Try.prog 55 #[at0 R, snkV Bf, .string s] w (GwS w.heap.size Bf out w) := by
  have HK := Lib.hid hk
  have hm := methW_bytes B
  clear hk
  go_enter Try.func55, Try.ntmps55
  go_wp2_with (go_at_call 90; (with_reducible refine HK.out.mono ?_); rintro e w1 ⟨rfl, hA, hE⟩; have HA := Lib.hid hA; have HE := Lib.hid hE; clear hA hE)
  go_ret2
  exact ⟨rfl, HA.out, HE.out⟩

theorem methW_strs (B : Nat) (w : World) : (method 235 116 (at0 B) "WriteString").run Try.prog w = .ok (97, at0 B) w := by kernel_rfl
set_option maxRecDepth 100000 in
set_option maxHeartbeats 1000000 in
theorem repW_strs (R B Bf : Nat) (out : Bs) (s : ByteArray) (w : World) (hc : w.cell? ⟨R, 0, none⟩ = some (.iface 116 (at0 B))) (hk : Calls Try.prog 97 #[at0 B, snkV Bf, .string s] w (GwS w.heap.size Bf out w)) :
    Calls Try.prog 55 #[at0 R, snkV Bf, .string s] w (GwS w.heap.size Bf out w) := by
  have HK := Lib.hid hk
  have hm := methW_strs B
  clear hk
  go_enter Try.func55, Try.ntmps55
  go_wp2_with (go_at_call 97; (with_reducible refine HK.out.mono ?_); rintro e w1 ⟨rfl, hA, hE⟩; have HA := Lib.hid hA; have HE := Lib.hid hE; clear hA hE)
  go_ret2
  exact ⟨rfl, HA.out, HE.out⟩

theorem methW_gen (B : Nat) (w : World) : (method 235 59 (at0 B) "WriteString").run Try.prog w = .ok (57, at0 B) w := by kernel_rfl
set_option maxRecDepth 100000 in
set_option maxHeartbeats 1000000 in
theorem repW_gen (R B Bf : Nat) (out : Bs) (s : ByteArray) (w : World) (hc : w.cell? ⟨R, 0, none⟩ = some (.iface 59 (at0 B))) (hk : Calls Try.prog 57 #[at0 B, snkV Bf, .string s] w (GwS w.heap.size Bf out w)) :
    Calls Try.prog 55 #[at0 R, snkV Bf, .string s] w (GwS w.heap.size Bf out w) := by
  have HK := Lib.hid hk
  have hm := methW_gen B
  clear hk
  go_enter Try.func55, Try.ntmps55
  go_wp2_with (go_at_call 57; (with_reducible refine HK.out.mono ?_); rintro e w1 ⟨rfl, hA, hE⟩; have HA := Lib.hid hA; have HE := Lib.hid hE; clear hA hE)
  go_ret2
  exact ⟨rfl, HA.out, HE.out⟩

theorem methW_single (B : Nat) (w : World) : (method 235 61 (at0 B) "WriteString").run Try.prog w = .ok (88, at0 B) w := by kernel_rfl
set_option maxRecDepth 100000 in
set_option maxHeartbeats 1000000 in
theorem repW_single (R B Bf : Nat) (out : Bs) (s : ByteArray) (w : World) (hc : w.cell? ⟨R, 0, none⟩ = some (.iface 61 (at0 B))) (hk : Calls Try.prog 88 #[at0 B, snkV Bf, .string s] w (GwS w.heap.size Bf out w)) :
    Calls Try.prog 55 #[at0 R, snkV Bf, .string s] w (GwS w.heap.size Bf out w) := by
  have HK := Lib.hid hk
  have hm := methW_single B
  clear hk
  go_enter Try.func55, Try.ntmps55
  go_wp2_with (go_at_call 88; (with_reducible refine HK.out.mono ?_); rintro e w1 ⟨rfl, hA, hE⟩; have HA := Lib.hid hA; have HE := Lib.hid hE; clear hA hE)
  go_ret2
  exact ⟨rfl, HA.out, HE.out⟩

theorem SgAt.keepE {w W : World} {R F G Bf rb : Nat} {p v : ByteArray} {S : Nat → Nat} (h : SgAt w R F G p v S) (hE : Eff Bf rb w W) (hrb : rb = w.heap.size) (hR : R ≠ Bf) (hF : F ≠ Bf) (hG : G ≠ Bf) : SgAt W R F G p v S := by
  obtain ⟨h1, h2, h3, h4⟩ := h
  have eR := hE.block R (by rw [hrb]; exact World.block_lt_of_cell? _ _ h1) hR
  have eF := hE.block F (by rw [hrb]; exact World.block_lt_of_cell? _ _ h3.c0) hF
  have eG := hE.block G (by rw [hrb]; exact h3.lG) hG
  have cR := fun o => World.cell?_of_block (w := w) (w' := W) (a := ⟨R, o, none⟩) eR
  have cF := fun o => World.cell?_of_block (w := w) (w' := W) (a := ⟨F, o, none⟩) eF
  have cG := fun o => World.cell?_of_block (w := w) (w' := W) (a := ⟨G, o, none⟩) eG
  have fF := fun o => World.frozen?_of_block (w := w) (w' := W) (a := ⟨F, o, none⟩) eF
  have fG := fun o => World.frozen?_of_block (w := w) (w' := W) (a := ⟨G, o, none⟩) eG
  exact ⟨(cR 0).trans h1, (cR 1).trans h2, ⟨(cF _).trans h3.c0, fun c hc => (cF _).trans (h3.cb c hc), (cF _).trans h3.cs, fun j hj => (cG _).trans (h3.ct j hj), fun o => (fF o).trans (h3.nF o), fun o => (fG o).trans (h3.nG o), h3.ne, Nat.lt_of_lt_of_le h3.lF hE.size, Nat.lt_of_lt_of_le h3.lG hE.size⟩, h4⟩
/-- Whatever the kind. -/
theorem repW_any {w : World} {base0 R Bf : Nat} {qs : List BB} {L : Nat} (h : RepFrom w base0 R qs L) (hBf : Bf < base0) (hL : 2 * qs.length ≤ L) (hq : ∀ q ∈ qs, q.1.size ≤ 2097152 ∧ q.2.size ≤ 2097152) (s : ByteArray) (hs : s.size ≤ 2097152) (hz : (repl (qs.map tb) s.data.toList true).length ≤ 140737488355328) (hA : SnkAt w w.heap.size Bf []) :
    Calls Try.prog 55 #[at0 R, snkV Bf, .string s] w (GwS w.heap.size Bf (repl (qs.map tb) s.data.toList true) w) := by
  obtain ⟨v, base, hc, hb, hbw, hb0, _⟩ := h
  cases hb with
  | single Q F G p v' S hq' hp h hb =>
    subst hq'
    have hqq : p.size ≤ 2097152 ∧ v'.size ≤ 2097152 := hq (p, v') (by simp)
    have hcl := count_le s p (by omega)
    have hpe : p.data.toList ≠ [] := fun e => by have := Lib.size_eq p; rw [e, List.length_nil] at this; omega
    have hm : (Lib.count s.data.toList p.data.toList + 1) * v'.size ≤ 2097153 * 2097152 := Nat.mul_le_mul (by omega) hqq.2
    have e : repl ([(p, v')].map tb) s.data.toList true = Lib.replaceK p.data.toList v'.data.toList (Lib.count s.data.toList p.data.toList) s.data.toList := (rk_repl _ _ hpe _ _ (Nat.le_refl _)).symm
    rw [e]
    exact repW_single R Q Bf _ s w hc (sgWriteS Q F G Bf p v' s S w (fun W hE => h.keepE hE rfl (by omega) (by omega) (by omega)) (by omega) (by omega) (by have := hqq.1; omega) _ rfl (by have := hqq.2; omega) hA)
  | gen g m N T hs' ho' h =>
    have hg := h.lies.lt g (Tr.has_root h.root)
    exact repW_gen R g Bf _ s w hc (genWriteS g base L N Bf qs m T s w w h hL (by omega) (fun W hE => ⟨h.root, h.tab, h.lies.same hE.size (fun b hb' => hE.block b (h.lies.lt b hb').2 (by have := (h.lies.lt b hb').1; omega)), h.rep.block (hE.block g hg.2 (by omega)), h.holds, h.inj, h.N256, h.m255, h.mN⟩) (Eff.refl _ _ _) hA hz)
  | bytes B Rf hs' ho' hn' hT hR hb =>
    have e : repl (qs.map tb) s.data.toList true = s.data.toList.flatMap (tabG Rf) := by
      rw [repl_bytes (one_only ho')]
      congr 1
      funext c
      exact (hR c).1
    rw [e]
    exact repW_bytes R B Bf _ s w hc (bytWriteS B Bf Rf s w (fun W hE => hT.block (hE.block B hT.lt (by omega))) (fun c => (hR c).2) (by omega) hA)
  | strs B Lb hs' ho' hn' h hb =>
    have e : repl (qs.map tb) s.data.toList true = s.data.toList.flatMap (gOf (byteFor (qs.map tb))) := by rw [repl_bytes (one_only ho'), g_to]
    rw [e] at hz ⊢
    exact repW_strs R B Bf _ s w hc (strWriteS B Bf base _ Lb s w h (by omega) hb (by omega) hz hA)
end Go.Proofs.Ytnigbgablginnaa

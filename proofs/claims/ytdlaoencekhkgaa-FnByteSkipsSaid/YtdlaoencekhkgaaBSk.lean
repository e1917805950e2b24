/- ZZSkips, Skips. -/
import Derived.Test.YtdlaoencekhkgaaFinW
import Derived.Deep.RegionHeld3
import Derived.Deep.MidRow
import Derived.RangeFuncBox
set_option linter.unusedVariables false
namespace Go.Proofs.Ytdlaoencekhkgaa
open Go.RowKit Go.Lib

/-- The table of bytes, as cells. -/
def bcCells (p : ByteArray) : List Value := (List.range 256).map fun c => .int .i64 (bc p c : Nat)
theorem bcCells_len (p : ByteArray) : (bcCells p).length = 256 := by simp [bcCells]
theorem bcCells_at (p : ByteArray) (c : Nat) (hc : c < 256) : (bcCells p)[c]? = some (.int .i64 (bc p c : Nat)) := by simp [bcCells, hc]
theorem bcCells_one (p : ByteArray) : ∀ v ∈ bcCells p, v.oneCell' = true := by
  intro v hv
  simp [bcCells] at hv
  obtain ⟨c, _, rfl⟩ := hv
  rfl
theorem FinAt.range {w : World} {F G : Nat} {p : ByteArray} {S : Nat → Nat} (h : FinAt w F G p (bc p) S) : w.rangeAt F 1 (bcCells p) := fun j v hv => by
  have hj := (List.getElem?_eq_some_iff.1 hv).1
  rw [bcCells_len] at hj
  rw [bcCells_at p j hj] at hv
  obtain rfl := Option.some.inj hv
  exact h.cb j hj

theorem there_of_row {w : World} {b : Nat} {cs : Array Value} {t : TypeId} (hb : w.heap[b]? = some (.cells cs t (0, 0))) (n : Nat) (hn : cs.size = n) : w.there b 0 n := by
  intro j hj
  refine ⟨?_, frozen_of_row w b (0 + j) _ _ hb⟩
  rw [cell_of_row w _ (0 + j) _ _ _ hb, Nat.zero_add, Array.getElem?_eq_getElem (by omega)]
  rfl
theorem below_setCells' {B b : Nat} {a : World} (hb : B ≤ b) : ∀ (vs : List Value) (o : Nat) (w : World), Below B a w → Below B a (w.setCells b o vs)
  | [], _, _, h => h
  | v :: r, o, w, h => below_setCells' hb r (o + 1) _ (h.setCell hb v)
theorem belowDrew {B : Nat} (w : World) : Below B w w.drew := ⟨rfl, rfl, rfl, Nat.le_refl _, fun _ _ => rfl⟩
theorem results_cell_tmp {P : Program} {fn : Func} {tmps : Array Value} {w : World} {a s : Nat} {t : TypeId} {addr : Addr} {v : Value} (h : fn.results = #[.cell a t, .tmp s]) (h1 : tmps.getD a undef = .pointer (some addr)) (hl : (loadVar t addr).run P w = .ok v w) :
    (results fn tmps).run P w = .ok (.tuple #[v, tmps.getD s undef]) w := by
  unfold results
  rw [h]
  have h1' : tmps[a]?.getD undef = .pointer (some addr) := by simpa using h1
  simp [asAddr, h1', hl]
theorem setCells_size (b : Nat) : ∀ (vs : List Value) (o : Nat) (w : World), (w.setCells b o vs).heap.size = w.heap.size
  | [], _, _ => rfl
  | v :: r, o, w => by rw [World.setCells, setCells_size b r (o + 1)]; simp [World.setCell]
theorem zero256 : Try.zeroCells54.size = 256 := by kernel_rfl

def Skipped (p : ByteArray) (w : World) (e : Ending) (w' : World) : Prop := ∃ (G : Nat) (S : Nat → Nat), e = .returned (.tuple #[.agg (bcCells p).toArray, .slice (some ⟨G, 0, none⟩) p.size p.size]) ∧ (∀ j, j < p.size → w'.cell? ⟨G, j, none⟩ = some (.int .i64 (S j))) ∧ w.heap.size ≤ G ∧ Below w.heap.size w w'

set_option maxRecDepth 100000 in
set_option maxHeartbeats 4000000 in
theorem zzSkips (p : ByteArray) (w : World) (hp : p.size ≤ 2147483647) (h1 : 1 ≤ p.size) :
    Calls Try.prog 44 #[.string p] w (Skipped p w) := by
  go_enter Try.func44, Try.ntmps44
  go_wp2_with fail
  refine (makeFinder p _ hp h1).mono ?_
  rintro e w1 ⟨F, G, S, rfl, hA, hG, hF1, hG1, hB⟩
  have HA := Lib.hid hA
  have HB := Lib.hid hB
  clear hA hB hG
  have hu := Try.underlying54
  obtain ⟨cs, hcs⟩ : ∃ cs, cs = bcCells p := ⟨_, rfl⟩
  have hlen : cs.length = 256 := by rw [hcs]; exact bcCells_len p
  have hi : (Try.prog.info? 54).map (·.size) = some cs.length := by rw [hlen]; kernel_rfl
  have hone : ∀ v ∈ cs, v.oneCell' = true := by rw [hcs]; exact bcCells_one p
  have hr : w1.rangeAt F 1 cs := by rw [hcs]; exact HA.out.range
  have hsk := HA.out.cs
  have hth : w1.there w.heap.size 0 256 := there_of_row ((HB.out.block w.heap.size (by simp)).trans (heap_alloc_new w _)) 256 zero256
  have HCS := Lib.hid hcs
  have HF1 := Lib.hid hF1
  have HG1 := Lib.hid hG1
  have hFR : F ≠ w.heap.size := by simp at hF1; omega
  have hRF : w.heap.size ≠ F := fun e => hFR e.symm
  clear hF1 hG1 hcs
  go_wp2_with fail
  go_region_held (fun w' => w'.rangeAt F 1 cs ∧ w'.cell? ⟨F, 257, none⟩ = some (.slice (some ⟨G, 0, none⟩) p.size p.size) ∧ w'.there w.heap.size 0 256) ((go_split_ands; simp only [World.rangeAt_drew, World.there_drew, World.cell?_drew] at *; (repeat' apply And.intro) <;> first | assumption | (apply World.there_setCells; assumption) | (refine World.rangeAt_setCells_apart (by assumption) _ _ _ (by omega)) | ((rw [World.cell?_setCells_out _ _ _ _ _ (fun hb _ => absurd hb hFR)]); assumption))) (fail)
  go_wp2
  obtain ⟨W, hW⟩ : ∃ W, W = w1.drew.setCells w.heap.size 0 cs := ⟨_, rfl⟩
  have hrw : W.rangeAt w.heap.size 0 cs := by rw [hW]; exact World.rangeAt_setCells_same _ _ _ _ (by rw [hlen]; exact hth)
  have hld := run_loadVar_mid (P := Try.prog) W w.heap.size 0 54 cs _ hrw hu rfl hi
  rw [← hW]
  refine bodyPost_ret (v := .tuple #[.agg cs.toArray, .slice (some ⟨G, 0, none⟩) p.size p.size]) (results_cell_tmp Try.results44 rfl hld) rfl ⟨G, S, by rw [HCS.out], fun j hj => ?_, ?_, ?_⟩
  · rw [hW, World.cell?_setCells_out _ _ _ _ _ (fun hb _ => absurd hb (show G ≠ w.heap.size by have := HG1.out; simp at this; omega))]
    exact HA.out.ct j hj
  · have := HG1.out; simp at this; omega
  · rw [hW]
    exact below_setCells' (Nat.le_refl _) _ _ _ (((Below.refl _ w).alloc (Nat.le_refl _) _).trans ((HB.out.mono (by simp)).trans (belowDrew _)))

theorem own_lit0 (w : World) : (w.alloc (.cells #[] 3)).ownsRow w.heap.size 3 1 (.slice (some ⟨w.heap.size, 0, none⟩) 0 0) 0 [] :=
  World.ownsRow_lit (base := w.heap.size) (e := 3) (size := 1) w #[] 0 (Nat.le_refl _) (by decide) (by simp)
def sufCells (p : ByteArray) (S : Nat → Nat) : List Value := (List.range p.size).map fun j => .int .i64 (S j : Nat)
theorem sufCells_len (p : ByteArray) (S : Nat → Nat) : (sufCells p S).length = p.size := by simp [sufCells]
theorem suf_one (p : ByteArray) (S : Nat → Nat) : ∀ v ∈ sufCells p S, v.oneCell' = true := by
  intro v hv
  simp [sufCells] at hv
  obtain ⟨c, _, rfl⟩ := hv
  rfl
theorem suf_later {p : ByteArray} {S : Nat → Nat} {G : Nat} {W2 w2 : World} (HG2 : Hid (∀ j, j < p.size → W2.cell? ⟨G, j, none⟩ = some (.int .i64 (S j)))) (HBx : Hid (Below W2.heap.size W2 w2)) :
    ∀ j u, (sufCells p S)[j]? = some u → (w2.alloc (.cells #[] 3)).cell? ((⟨G, 0, none⟩ : Addr).add j) = some u := fun j u hu => by
  have hj := (List.getElem?_eq_some_iff.1 hu).1
  rw [sufCells_len] at hj
  have hu' : u = .int .i64 (S j : Nat) := by simpa [sufCells, hj] using hu.symm
  rw [Addr.add_mid, Nat.zero_add, hu']
  have h1 := HG2.out j hj
  have h2 := (HBx.out.cell (p := ⟨G, j, none⟩) (World.block_lt_of_cell? _ _ h1)).trans h1
  exact (((Below.refl w2.heap.size w2).alloc (Nat.le_refl _) _).cell (p := ⟨G, j, none⟩) (World.block_lt_of_cell? _ _ h2)).trans h2

def Tables (p : ByteArray) (w : World) (e : Ending) (w' : World) : Prop := ∃ (T c : Nat) (v : Value), e = .returned (.tuple #[.slice (some ⟨T, 0, none⟩) 256 c, v]) ∧ (∀ c, c < 256 → w'.cell? ⟨T, c, none⟩ = some (.int .i64 (bc p c : Nat))) ∧ Below w.heap.size w w'

set_option maxRecDepth 100000 in
set_option maxHeartbeats 1000000 in
theorem Skips (p : ByteArray) (w : World) (hp : p.size ≤ 2147483647) (h1 : 1 ≤ p.size) :
    Calls Try.prog 28 #[.string p] w (Tables p w) := by
  go_enter Try.func28, Try.ntmps28
  go_wp2_with fail
  refine (zzSkips p _ hp h1).mono ?_
  rintro e w1 ⟨G, S, rfl, hG, hGl, hB⟩
  have HG := Lib.hid hG
  have HB := Lib.hid hB
  obtain ⟨cs, hcs⟩ : ∃ cs, cs = bcCells p := ⟨_, rfl⟩
  rw [← hcs]
  have hlen : cs.length = 256 := by rw [hcs]; exact bcCells_len p
  have hone : ∀ v ∈ cs, v.oneCell' = true := by rw [hcs]; exact bcCells_one p
  have HCS := Lib.hid hcs
  have HGl := Lib.hid hGl
  clear hG hGl hB hcs
  have hth : (w1.alloc (.cells Try.zeroCells54 54)).there w1.heap.size 0 256 := there_of_row (heap_alloc_new w1 _) _ zero256
  have hst : (storeCells { block := w1.heap.size, off := 0 } cs).run Try.prog (w1.alloc (Obj.cells Try.zeroCells54 54)) = .ok () ((w1.alloc (Obj.cells Try.zeroCells54 54)).setCells w1.heap.size 0 cs) := by
    have := run_storeCells_cells (P := Try.prog) w1.heap.size 0 cs 0 (w1.alloc (Obj.cells Try.zeroCells54 54)) (fun j hj => by simpa using (hth j (by omega)).1) (fun j hj => by simp) hone
    simpa using this
  obtain ⟨i0, hi, hz0, hz1, hz2⟩ := info_parts intInfo
  obtain ⟨W2, hW2⟩ : ∃ W2, W2 = (w1.alloc (Obj.cells Try.zeroCells54 54)).setCells w1.heap.size 0 cs := ⟨_, rfl⟩
  have hsz2 : W2.heap.size = w1.heap.size + 1 := by rw [hW2, setCells_size]; simp
  have hrg : W2.rangeAt w1.heap.size 0 cs := by rw [hW2]; exact World.rangeAt_setCells_same _ _ _ _ (by rw [hlen]; exact hth)
  have HB2 : Hid (Below w.heap.size w W2) := Lib.hid (by rw [hW2]; exact below_setCells' HB.out.size _ _ _ (HB.out.alloc HB.out.size _))
  have HG2 : Hid (∀ j, j < p.size → W2.cell? ⟨G, j, none⟩ = some (.int .i64 (S j))) := Lib.hid (fun j hj => by
    have h := HG.out j hj
    have hlt : G < w1.heap.size := World.block_lt_of_cell? _ _ h
    rw [hW2, World.cell?_setCells_out _ _ _ _ _ (fun hb _ => absurd hb (show G ≠ w1.heap.size by omega))]
    exact (((Below.refl w1.heap.size w1).alloc (Nat.le_refl _) _).cell (p := ⟨G, j, none⟩) hlt).trans h)
  rw [← hW2] at hst
  have HRg : Hid (∀ j v, cs[j]? = some v → (W2.alloc (.cells #[] 3)).cell? ((⟨w1.heap.size, 0, none⟩ : Addr).add j) = some v) := Lib.hid (fun j v hv => by
    rw [Addr.add_mid]
    exact World.rangeAt_alloc hrg _ j v hv)
  have hown0 : (W2.alloc (.cells #[] 3)).ownsRow (w1.heap.size + 1) 3 1 (.slice (some ⟨w1.heap.size + 1, 0, none⟩) 0 0) 0 [] := by
    have := World.ownsRow_lit (base := w1.heap.size + 1) (e := 3) (size := 1) W2 #[] 0 (by omega) (by decide) (by simp)
    rwa [hsz2] at this
  have HOwn0 := Lib.hid hown0
  have hbb : w1.heap.size + 1 ≤ (W2.alloc (.cells #[] 3)).heap.size := by simp [hsz2]
  have hbb2 : w.heap.size ≤ (W2.alloc (.cells #[] 3)).heap.size := by have := HB.out.size; omega
  have HOn := Lib.hid hone
  clear hth hW2 hrg hone hown0
  go_wp2_with (first
    | (at_builtin; (refine wpList_append_own _ rfl _ _ 29 rfl (w1.heap.size + 1) 3 i0 (.int .i64 0) 1 8 Try.underlying29 hi hz0 hz1 hz2 rfl (by decide) _ _ _ rfl HOwn0.out ⟨w1.heap.size, 0, none⟩ 256 256 cs rfl (by omega) HRg.out HOn.out (by decide) (by decide) hbb ?_; intro v' w2 hown' hgrow _; have HB3 := Lib.hid ((HB2.out.alloc HB2.out.size _).grown hgrow hbb2 (fun j ej => by have := (HOwn0.out.lt j ej).1; have := HB.out.size; omega)); have HBx : Hid (Below W2.heap.size W2 w2) := Lib.hid (((Below.refl _ W2).alloc (Nat.le_refl _) _).grown hgrow (by simp) (fun j ej => by have := (HOwn0.out.lt j ej).1; omega)); have hown2 : w2.ownsRow (w1.heap.size + 1) 3 1 v' (255 + 1) cs := (by simpa using hown'); obtain ⟨g', cap', rfl⟩ := ownsRow_succ hown2; have HO := Lib.hid hown2; clear hown' hown2 hgrow))
    | (at_builtin; refine wpList_append_own _ rfl _ _ 29 rfl w2.heap.size 3 i0 (.int .i64 0) 1 8 Try.underlying29 hi hz0 hz1 hz2 rfl (by decide) _ _ _ rfl (own_lit0 w2) ⟨G, 0, none⟩ p.size p.size (sufCells p S) rfl (by rw [sufCells_len]; omega) (suf_later HG2 HBx) (suf_one p S) (by unfold maxLen; omega) (by omega) (by simp) ?_; intro v3 w3 hown3 hgrow3 _; have HB4 : Hid (Below w2.heap.size w2 w3) := Lib.hid (((Below.refl _ w2).alloc (Nat.le_refl _) _).grown hgrow3 (by simp) (fun j ej => ((own_lit0 w2).lt j ej).1)); clear hown3 hgrow3))
  refine bodyPost_ret (v := .tuple #[.slice (some ⟨g', 0, none⟩) 256 cap', v3]) (by simp [results, Try.results28, go_sem]) rfl ⟨g', cap', v3, rfl, fun c hc => ?_, HB3.out.trans (HB4.out.mono HB3.out.size)⟩
  have hcell := HO.out.cellAt c (by omega)
  rw [HCS.out, bcCells_at p c hc] at hcell
  exact (HB4.out.cell (p := ⟨g', c, none⟩) (World.block_lt_of_cell? _ _ hcell)).trans hcell
end Go.Proofs.Ytdlaoencekhkgaa
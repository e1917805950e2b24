/- (*strings.Builder).Grow at a builder that holds something. -/
import Derived.Test.YtnigbgablginnaaSh
import Derived.WalkKit
import Derived.Lib.MakeNoZero
import Derived.Laws.CopyOwn
import Derived.Laws.Externs
import Derived.Deep.QuietTactic
import Derived.BigQuiet
import Derived.BigCall
import Derived.BigGuard
import Derived.Outline
import Derived.IntWalk
import Derived.Lib.Hide
set_option linter.unusedVariables false
namespace Go.Proofs.Ytnigbgablginnaa
open Go.Shelf Go.RowKit

theorem bDr (B : Nat) (w : World) (n : Nat) : Below B w (w.drewN n) := ⟨rfl, rfl, rfl, Nat.le_refl _, fun _ _ => rfl⟩
theorem byteSize : (Try.prog.info? 5).map (·.size) = some 1 := by kernel_rfl

set_option maxHeartbeats 2000000 in
set_option maxRecDepth 1000000 in
theorem bgrow_row (B b n L g cap : Nat) (cur : List Value) (w : World) (hB : B ≤ b) (hbk : w.heap[b]? = some (.cells #[.pointer (some ⟨b, 0, none⟩), .slice (some ⟨g, 0, none⟩) L cap] 90 (0, 0)))
    (hg : w.heap[g]? = some (.cells cur.toArray 5 (0, 0))) (hgb : g ≠ b) (hL : L ≤ cap) (hcur : cur.length = cap) (hc1 : ∀ v ∈ cur.take L, v.oneCell' = true) (hBw : B ≤ w.heap.size) (hn : 2 * cap + n ≤ 281474976710656) :
    Calls Try.prog 68 #[.pointer (some ⟨b, 0, none⟩), .int .i64 n] w fun e w' => e = .returned (.tuple #[]) ∧ (Lib.BuilderAt 90 5 B b (.pointer (some ⟨b, 0, none⟩)) (cur.take L) w' ∧ Below B w w') := by
  obtain ⟨cs, hrun, hle, hmax⟩ := Lib.run_makeNoZero (P := Try.prog) w.drew #[3] 41 5 Try.underlying41 (2 * cap + n) hn
  have hlt : b < w.heap.size := (Array.getElem?_eq_some_iff.1 hbk).1
  have hltg : g < w.heap.size := (Array.getElem?_eq_some_iff.1 hg).1
  have hw0 : IntKind.i64.wrap (2 * (cap : Int)) = 2 * (cap : Int) := IntWalk.i64_in _ (by omega)
  have hw : IntKind.i64.wrap (2 * (cap : Int) + (n : Int)) = ((2 * cap + n : Nat) : Int) := by rw [IntWalk.i64_in _ (by omega)]; omega
  have hcall : (callFunc 71 #[.int .i64 (IntKind.i64.wrap (2 * (cap : Int) + (n : Int)))]).run Try.prog w.drew = .ok (.value (.slice (some ⟨w.drew.heap.size, 0, none⟩) (2 * cap + n) cs.size)) (w.drew.drew.drew.alloc (.cells cs 5)) := by
    rw [hw, run_callFunc_extern Try.func71 (by kernel_rfl) (by kernel_rfl) (by kernel_rfl) (e := Extern.BytealgMakeNoZero.makeNoZero #[3] #[41]) (by kernel_rfl), hrun]
    rfl
  have c1 : w.drew.cell? ⟨b, 1, none⟩ = some (.slice (some ⟨g, 0, none⟩) L cap) := by
    have : w.drew.heap[b]? = _ := hbk
    rw [Lib.cell_of_heap this]; rfl
  have c2 : (w.alloc (.cells cs 5)).cell? ⟨b, 1, none⟩ = some (.slice (some ⟨g, 0, none⟩) L cap) := by
    have : (w.alloc (.cells cs 5)).heap[b]? = _ := (Lib.alloc_old w _ b hlt).trans hbk
    rw [Lib.cell_of_heap this]; rfl
  have f2 : (w.alloc (.cells cs 5)).frozen? ⟨b, 1, none⟩ = false := Lib.frozen_of_heap ((Lib.alloc_old w _ b hlt).trans hbk) 1
  clear hw
  have hLc : L ≤ cs.size := by omega
  have u37 := run_underlying Try.underlying41
  go_enter Try.func68, Try.ntmps68
  go_wp2_with fail
  have hG1 : (w.alloc (.cells cs 5)).drew.drew.drew.heap[w.heap.size]? = some (.cells cs 5 (0, 0)) := heap_alloc_new w _
  have hn1 : (cur.take L).length = L.min L := by rw [List.length_take]; show min L cur.length = min L L; omega
  have hsrc : ∀ (j : Nat) (v : Value), (cur.take L)[j]? = some v → (w.alloc (.cells cs 5)).drew.drew.drew.cell? ((⟨g, 0, none⟩ : Addr).add j) = some v := by
    intro j v hj
    have e : (w.alloc (.cells cs 5)).drew.drew.drew.heap[g]? = some (.cells cur.toArray 5 (0, 0)) := (Below.heap_alloc w _ g hltg).trans hg
    rw [Addr.add_lit, Lib.cell_of_heap e]
    rw [List.getElem?_toArray]
    rw [List.getElem?_take] at hj
    split at hj
    · rw [Nat.zero_add]; exact hj
    · cases hj
  have hfit : 0 + (cur.take L).length ≤ cs.size := by rw [List.length_take]; omega
  have hone : ∀ v : Value, v ∈ cur.take L → v.oneCell' = true := fun v hv => hc1 v hv
  have HS := Lib.hid hsrc
  have HO := Lib.hid hone
  have HN := Lib.hid hn1
  have HF := Lib.hid hfit
  have HG := Lib.hid hG1
  have HBK := Lib.hid hbk
  have HM := Lib.hid (hmax (by unfold maxLen; omega))
  clear hsrc hone hn1 hfit hG1 hg hmax hrun hbk
  have hfin : ∀ W2, W2 = (w.alloc (.cells cs 5)).drew.drew.drew.setRow w.heap.size ((cs.toList.take 0 ++ (cur.take L ++ cs.toList.drop (0 + (cur.take L).length))).toArray) →
      W2.heap[b]? = some (.cells #[.pointer (some ⟨b, 0, none⟩), .slice (some ⟨g, 0, none⟩) L cap] 90 (0, 0)) ∧
      W2.ownsRow B 5 1 (.slice (some ⟨w.heap.size, 0, none⟩) L cs.size) (cur.take L).length (cur.take L) ∧ Below B w W2 := by
    rintro W2 rfl
    refine ⟨(setRow_other _ _ _ _ (by omega)).trans ((Below.heap_alloc w _ b hlt).trans HBK.out), ⟨by simp, .inr ⟨w.heap.size, cs.size, _, ?_, hBw, setRow_heap _ _ _ _ _ _ HG.out, ?_, HM.out, ?_, ?_⟩⟩, ?_⟩
    · rw [List.length_take, show min L cur.length = L by omega]
    · rw [List.length_take]; omega
    · have := HF.out
      simp at this ⊢
      omega
    · simp
    · refine Below.trans (((Below.refl B w).alloc hBw _).drew.drew.drew) ⟨rfl, rfl, rfl, by simp [World.setRow], fun k hk => setRow_other _ _ _ _ (by omega)⟩
  have HFin := Lib.hid hfin
  clear hfin
  go_region
  all_goals (
    go_wp2_with (refine wpList_copy_own rfl (.tmp 20) (.tmp 24) 41 41 rfl 5 Try.underlying41 byteSize w.heap.size 0 L cs.size ⟨g, 0, none⟩ L cap rfl rfl cs 5 HG.out (cur.take L) HN.out HS.out HF.out HO.out ?_; generalize hW2 : World.setRow _ _ _ = W2; obtain ⟨b2, o2, l2⟩ := HFin.out W2 hW2.symm; have c3 := (Lib.cell_of_heap (w := W2) b2 1); have f3 : W2.frozen? ⟨b, 1, none⟩ = false := Lib.frozen_of_heap b2 1; have B2 := Lib.hid b2; have O2 := Lib.hid o2; have L2 := Lib.hid l2; clear b2 o2 l2 hW2)
    go_end0
    exact ⟨rfl, Lib.BuilderAt.put hB B2.out O2.out bExtra.neB5, L2.out.setCell (p := ⟨b, 1, none⟩) hB _⟩)

set_option maxHeartbeats 2000000 in
set_option maxRecDepth 1000000 in
theorem bGrow_core (B b n : Nat) (v : Value) (bs : List Value) (w W1 : World) (hcc : Calls Try.prog 67 #[.pointer (some ⟨b, 0, none⟩)] w fun e w' => e = .returned (.tuple #[]) ∧ w' = W1) (h1 : Below B w W1)
    (hB : B ≤ b) (hbk : W1.heap[b]? = some (.cells #[.pointer (some ⟨b, 0, none⟩), v] 90 (0, 0))) (hown : W1.ownsRow B 5 1 v bs.length bs) (hne : v.ownBlock ≠ some b)
    (hone : ∀ v ∈ bs, v.oneCell' = true) (hlen : 3 * (bs.length + n) ≤ 140737488355328) (hBw : B ≤ W1.heap.size) :
    Calls Try.prog 60 #[.pointer (some ⟨b, 0, none⟩), .int .i64 n] w fun e w' => e = .returned (.tuple #[]) ∧ (Lib.BuilderAt 90 5 B b (.pointer (some ⟨b, 0, none⟩)) bs w' ∧ Below B w w') := by
  have HU : Hid (Lib.BuilderAt 90 5 B b (.pointer (some ⟨b, 0, none⟩)) bs W1) := ⟨hB, v, hbk, hown, hne⟩
  have c1 : W1.cell? ⟨b, 1, none⟩ = some v := by rw [Lib.cell_of_heap hbk]; rfl
  rcases hown.2 with ⟨rfl, h0⟩ | ⟨g, cap, cur, rfl, hg1, hg2, hg3, hg4, hg5, hg6⟩
  · obtain rfl : bs = [] := List.eq_nil_of_length_eq_zero h0
    have HBK := Lib.hid hbk
    clear hbk hown hne h0 hone
    by_cases hn : 0 < n
    · have hnz : (0 : Int) < (n : Int) := by omega
      have hg := fun q => Any.Builder_grow_fresh { lays165 with } bExtra B b n (W1.drewN q) hB HBK.out hBw (by omega)
      have HG := Lib.hid hg
      clear hg
      go_enter Try.func60, Try.ntmps60
      go_wp2_with (go_at_call 67; refine hcc.mono ?_; rintro e w' ⟨rfl, hw⟩; rw [hw])
      clear hcc
      go_quiet (fail)
      go_wp2_with (go_at_call 68; refine (HG.out _).mono ?_; rintro e w2 ⟨rfl, hb, hl⟩)
      go_end0
      exact ⟨rfl, hb, h1.trans ((bDr B W1 _).trans hl)⟩
    · obtain rfl : n = 0 := by omega
      go_enter Try.func60, Try.ntmps60
      go_wp2_with (go_at_call 67; refine hcc.mono ?_; rintro e w' ⟨rfl, hw⟩; rw [hw])
      clear hcc
      go_quiet (fail)
      go_wp2_with fail
      go_end0
      exact ⟨rfl, HU.out, h1.trans ⟨rfl, rfl, rfl, Nat.le_refl _, fun _ _ => rfl⟩⟩
  · have hcap : (cap : Int) ≤ 9223372036854775807 := by unfold maxLen at hg4; omega
    have HBK := Lib.hid hbk
    have hgb : g ≠ b := fun e => hne (by rw [e]; rfl)
    by_cases hn : (cap : Int) - bs.length < n
    · have hg := fun q => bgrow_row B b n bs.length g cap cur.toList (W1.drewN q) hB HBK.out (by simpa using hg2) hgb hg3 (by simpa using hg5) (by rw [show cur.toList.take bs.length = bs by simpa using hg6]; exact hone) hBw (by omega)
      rw [show cur.toList.take bs.length = bs by simpa using hg6] at hg
      have HG := Lib.hid hg
      clear hg hg2 hg5 hg6 hbk hown hne hone
      have w1 : IntKind.i64.wrap ((cap : Int) - bs.length) = (cap : Int) - bs.length := IntWalk.i64_in _ (by omega)
      go_enter Try.func60, Try.ntmps60
      go_wp2_with (go_at_call 67; refine hcc.mono ?_; rintro e w' ⟨rfl, hw⟩; rw [hw])
      clear hcc
      go_quiet (fail)
      clear w1
      go_wp2_with (go_at_call 68; refine (HG.out _).mono ?_; rintro e w2 ⟨rfl, hb, hl⟩)
      go_end0
      exact ⟨rfl, hb, h1.trans ((bDr B W1 _).trans hl)⟩
    · clear hg2 hg5 hg6 hbk hown hne hone
      have w1 : IntKind.i64.wrap ((cap : Int) - bs.length) = (cap : Int) - bs.length := IntWalk.i64_in _ (by omega)
      have hn' : decide ((cap : Int) - bs.length < n) = false := decide_eq_false hn
      go_enter Try.func60, Try.ntmps60
      go_wp2_with (go_at_call 67; refine hcc.mono ?_; rintro e w' ⟨rfl, hw⟩; rw [hw])
      clear hcc
      go_quiet (fail)
      clear w1
      go_wp2_with fail
      go_end0
      exact ⟨rfl, HU.out, h1.trans ⟨rfl, rfl, rfl, Nat.le_refl _, fun _ _ => rfl⟩⟩

/-- Grow, whatever the builder holds. -/
theorem bGrowA (B b n : Nat) (bs : List Value) (w : World) (h : Lib.IsBuilder 90 5 B b bs w) (hone : ∀ v ∈ bs, v.oneCell' = true) (hlen : 3 * (bs.length + n) ≤ 140737488355328) (hBw : B ≤ w.heap.size) :
    Calls Try.prog 60 #[.pointer (some ⟨b, 0, none⟩), .int .i64 n] w fun e w' => e = .returned (.tuple #[]) ∧ (Lib.BuilderAt 90 5 B b (.pointer (some ⟨b, 0, none⟩)) bs w' ∧ Below B w w') := by
  rcases h with ⟨hB, v, hbk, hown, hne⟩ | ⟨hB, v, hbk, hown, hne⟩
  · refine bGrow_core B b n v bs w (w.setCell ⟨b, 0, none⟩ (.pointer (some ⟨b, 0, none⟩))) (Any.Builder_copyCheck_fresh { lays165 with } bX72 b w (by rw [Lib.cell_of_heap hbk]; rfl) (by simp [World.shape?, hbk]; rfl) (Lib.frozen_of_heap hbk 0)) ((Below.refl B w).setCell (p := ⟨b, 0, none⟩) hB _) hB ?_ ?_ hne hone hlen (by simpa using hBw)
    · simp [World.setCell, Array.getElem?_modify, hbk]
    · exact hown.kept (row := some b) ⟨rfl, rfl, rfl, by simp [World.setCell], fun k _ hk => Below.heap_setCell _ _ _ _ (fun e => hk (by simp [e]))⟩ (Or.inr hne)
  · exact bGrow_core B b n v bs w w (Any.Builder_copyCheck_used { lays165 with } bX72 b w (by rw [Lib.cell_of_heap hbk]; rfl)) (Below.refl B w) hB hbk hown hne hone hlen hBw
end Go.Proofs.Ytnigbgablginnaa

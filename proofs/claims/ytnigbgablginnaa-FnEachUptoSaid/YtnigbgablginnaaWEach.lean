/- The walk of FnEach. -/
import Derived.Test.YtnigbgablginnaaEachW
set_option linter.unusedVariables false
namespace Go.Proofs.Ytnigbgablginnaa
open Go.RowKit Go.Lib

set_option maxRecDepth 100000 in
set_option maxHeartbeats 4000000 in
theorem walk_FnEach (v : Value) (xs : List ByteArray) (u : Value) (ts : List ByteArray) (w : World) (hv : StrsAt w v xs) (hz : ∀ x ∈ xs, x.size ≤ maxLen) (hl : xs.length ≤ maxLen) (hu : StrsAt w u ts) (hz' : ∀ x ∈ ts, x.size ≤ maxLen) (hl' : ts.length ≤ maxLen) (hb : bulkS xs + bulkS ts ≤ 1048576) :
    Calls Try.prog 6 #[v, u] w fun e w' => e = .returned (.bool true) ∧ Below w.heap.size w w' := by
  have HF1 := Lib.hid (front hv hl (by omega))
  have HF2 := Lib.hid (front hu hl' (by omega))
  have HV := Lib.hid hv
  by_cases he : xs.length % 2 = 0
  · have HE := Lib.hid (front_even hv hl true (by simp [he]))
    have hfew := front_few he (by omega : bulkS xs ≤ 1048576)
    have ht1 := bulkS_len ts
    have ht : ∀ t ∈ ts, t.size ≤ 2097152 := fun t h => by have := bulkS_mem h; omega
    have HRE := Lib.hid (replaceEach hfew v u w hv hu (by omega) ht)
    have HIs := Lib.hid (fun (W : World) (hW : StrsAt W v xs) (s : ByteArray) (hs : s.size ≤ 2097152) => rpIsA hfew v s ⟨(repl (prs xs) s.data.toList true).toArray⟩ W hW hs rfl)
    have HT := Lib.hid ht
    have HEL := Lib.hid (eachOf_len xs ts)
    have HEG := Lib.hid (fun (k : Nat) (x : ByteArray) (h : ts[k]? = some x) => eachOf_get (xs := xs) h)
    have hn : ts.length ≤ 1048576 := by omega
    obtain ⟨A, c, rfl⟩ := hu.shape
    obtain ⟨_, hc, hcells⟩ := hu.cells
    have HC := Lib.hid hcells
    clear hv hz hl hz' hl' hb he hfew ht ht1 hu hcells
    obtain ⟨ys, hys⟩ : ∃ ys, ys = eachOf xs ts := ⟨_, rfl⟩
    rw [← hys] at HRE HEL HEG
    have hyl := HEL.out
    generalize hln : ts.length = n at hc hn hyl HF2 HRE ⊢
    have HL := Lib.hid hln
    clear hln hys
    go_enter Try.func6, Try.ntmps6
    go_wp2_with (first | (go_at_call 18; (with_reducible refine HF1.out.mono ?_); rintro e w' ⟨rfl, rfl⟩) | (go_at_call 18; (with_reducible refine HF2.out.mono ?_); rintro e w' ⟨rfl, rfl⟩) | (go_at_call 19; (with_reducible refine HE.out.mono ?_); rintro e w' ⟨rfl, rfl⟩) | (go_at_call 29; go_must (with_reducible refine HRE.out.mono ?_); go_must (rintro e w1 ⟨v', rfl, hs, hB⟩; have HB := Lib.hid hB; obtain ⟨A', c', rfl⟩ := hs.shape; obtain ⟨_, hc', hcells'⟩ := hs.cells; rw [hyl] at hc' hs ⊢; have HC' := Lib.hid hcells'; clear hs hB hcells')))
    go_loopw [29] (fun iv W => ∃ k : Nat, k ≤ n ∧ iv = .int .i64 k ∧ Hid (Below w1.heap.size w1 W)) (fun iv _ => n - (RowKit.intOf iv).toNat)
    case atStart => exact ⟨0, Nat.zero_le _, rfl, Lib.hid (Below.refl _ _)⟩
    case round =>
      obtain ⟨k, hk, rfl, HB1⟩ := hrel
      by_cases hlt : k < n
      · obtain ⟨x, hx⟩ : ∃ x, ts[k]? = some x := ⟨_, List.getElem?_eq_getElem (by have := HL.out; omega)⟩
        obtain ⟨G, o, rfl, hG, hcell⟩ := HC.out k x hx
        obtain ⟨G', o', rfl, hG', hcell'⟩ := HC'.out k _ (HEG.out k x hx)
        have c0 : wr.cell? ⟨G, o + k, none⟩ = some (.string x) := (HB1.out.cell (p := ⟨G, o + k, none⟩) (Nat.lt_of_lt_of_le hG HB.out.size)).trans ((HB.out.cell (p := ⟨G, o + k, none⟩) hG).trans hcell)
        have c1 : wr.cell? ⟨G', o' + k, none⟩ = some (.string ⟨(repl (prs xs) x.data.toList true).toArray⟩) := (HB1.out.cell (p := ⟨G', o' + k, none⟩) hG').trans hcell'
        have HI := Lib.hid (HIs.out wr ((HV.out.below HB.out).below HB1.out) x (HT.out x (List.mem_of_getElem? hx)))
        have hltz : (k : Int) < (n : Int) := by omega
        obtain ⟨y, hy⟩ : ∃ y : ByteArray, y = ⟨(repl (prs xs) x.data.toList true).toArray⟩ := ⟨_, rfl⟩
        rw [← hy] at c1 HI
        clear hx hcell hcell' hy
        go_wp2_with (go_at_call 23; (with_reducible refine HI.out.mono ?_); rintro e w2 ⟨rfl, hB2⟩; have HB2 := Lib.hid (HB1.out.trans (hB2.mono HB1.out.size)); clear hB2)
        go_roundw
        case rel => exact ⟨k + 1, by omega, by go_num, HB2⟩
        case measure => simp [RowKit.intOf]; omega
      · have hltz : ¬ ((k : Int) < (n : Int)) := by omega
        go_wp2_with fail
        go_ret
        exact ⟨rfl, HB.out.trans (HB1.out.mono HB.out.size)⟩
  · have HE := Lib.hid (front_even hv hl false (by simp [he]))
    clear hv hz hl hz' hl' hb he hu
    go_enter Try.func6, Try.ntmps6
    go_wp2_with (first | (go_at_call 18; (with_reducible refine HF1.out.mono ?_); rintro e w' ⟨rfl, rfl⟩) | (go_at_call 18; (with_reducible refine HF2.out.mono ?_); rintro e w' ⟨rfl, rfl⟩) | (go_at_call 19; (with_reducible refine HE.out.mono ?_); rintro e w' ⟨rfl, rfl⟩))
    go_ret
    exact ⟨rfl, Below.refl _ _⟩
end Go.Proofs.Ytnigbgablginnaa

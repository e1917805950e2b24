/- The walk of FnFirst. -/
import Derived.Test.YtnigbgablginnaaAppR
import Derived.OpenShut
import Derived.Laws.BitsLemmas
set_option linter.unusedVariables false
namespace Go.Proofs.Ytnigbgablginnaa
open Go.RowKit Go.Lib

theorem few_first {xs : List ByteArray} {p v : ByteArray} (h : Few xs) (hl : xs.length ≤ 2147483645) (hp : p.size ≤ 2097152) (hv : v.size ≤ 2097152) : Few (xs ++ [p, v]) := by
  obtain ⟨h1, h2, h3⟩ := h
  refine ⟨by rw [List.length_append]; simp; omega, by rw [List.length_append]; simp; omega, fun x hx => ?_⟩
  rcases List.mem_append.1 hx with hx | hx
  · exact h3 x hx
  · simp only [List.mem_cons, List.not_mem_nil, or_false] at hx
    rcases hx with rfl | rfl
    · exact hp
    · exact hv
theorem prs_first (xs : List ByteArray) (p v : ByteArray) (he : xs.length % 2 = 0) : prs (xs ++ [p, v]) = prs xs ++ [(p.data.toList, v.data.toList)] := by
  unfold prs
  rw [List.map_append, pairUp_append _ _ (by rw [List.length_map]; exact he)]; rfl
theorem repl_first {xs : List ByteArray} (he : xs.length % 2 = 0) {q : Nat} {p : ByteArray} (v : ByteArray) (hp : xs[2 * q]? = some p) (s : Bs) : repl (prs (xs ++ [p, v])) s true = repl (prs xs) s true := by
  rw [prs_first xs p v he]
  have hq : 2 * q + 1 < xs.length := by have := (List.getElem?_eq_some_iff.1 hp).1; omega
  have := prs_get xs q p xs[2 * q + 1] hp (List.getElem?_eq_getElem hq)
  exact repl_same (fun t e => firstP_again (prs xs) _ (List.mem_of_getElem? this) v.data.toList t e) s true
theorem first_apps (W : World) (xs : List ByteArray) (G o c : Nat) (p v : ByteArray) (hv : StrsAt W (.slice (some ⟨G, o, none⟩) xs.length c) xs) (hl : xs.length ≤ 2147483647) :
    ∃ v1 W1 v2 W2, (Builtin.append_ #[22, 22] 22 #[.slice (some ⟨W.heap.size, 0, none⟩) 0 0, .slice (some ⟨G, o, none⟩) xs.length c]).run Try.prog (W.alloc (.cells #[] 9)) = .ok v1 W1
    ∧ (Builtin.append_ #[22, 22] 22 #[v1, .slice (some ⟨W1.heap.size, 0, none⟩) 2 2]).run Try.prog (W1.alloc (.cells #[.string p, .string v] 9)) = .ok v2 W2 ∧ StrsAt W2 v2 (xs ++ [p, v]) ∧ Below W.heap.size W W2 := by
  obtain ⟨_, hc, hcells⟩ := hv.cells
  have hO : (W.alloc (.cells #[] 9)).ownsRow W.heap.size 9 1 (.slice (some ⟨W.heap.size, 0, none⟩) 0 0) ([] : List ByteArray).length (([] : List ByteArray).map Value.string) := World.ownsRow_made W #[] 0 (Nat.le_refl _) (by unfold maxLen; omega) rfl
  obtain ⟨v1, W1, hr1, hO1, hB1, _⟩ := app_run (W.alloc (.cells #[] 9)) W.heap.size _ [] xs G o c hO (fun j y hy => by
    obtain ⟨G', o', e, _, hcc⟩ := hcells j y hy
    obtain ⟨rfl, rfl⟩ : G = G' ∧ o = o' := by cases e; exact ⟨rfl, rfl⟩
    exact Lib.cell?_alloc_some _ hcc) (by simp; omega) (by simp)
  have hb1 := hB1 W.heap.size (Nat.le_refl _)
  have hb0 : Below W.heap.size W W1 := ((Below.refl _ W).alloc (Nat.le_refl _) _).trans hb1
  obtain ⟨v2, W2, hr2, hO2, hB2, hS2⟩ := app_run (W1.alloc (.cells #[.string p, .string v] 9)) W.heap.size v1 ([] ++ xs) [p, v] W1.heap.size 0 2 (hO1.alloc _) (two_cells W1 p v) (by simp; omega) (by have := hb0.size; simp; omega)
  exact ⟨v1, W1, v2, W2, hr1, hr2, by simpa using hS2, (hb0.alloc hb0.size _).trans (hB2 W.heap.size (Nat.le_refl _))⟩
theorem and_small (i : Int) : ∃ b : Nat, bits .and .i64 i 16777215 = b := by
  refine ⟨(BitVec.ofInt 64 i).toNat &&& 16777215, ?_⟩
  have hle : (BitVec.ofInt 64 i).toNat &&& 16777215 ≤ 16777215 := Nat.and_le_right
  have e : bits .and .i64 i 16777215 = IntKind.i64.wrap (((BitVec.ofInt 64 i).toNat &&& 16777215 : Nat) : Int) := by
    simp only [bits, BitVec.toNat_and]
    rfl
  rw [e, IntKind.wrap_i64]
  omega

set_option maxRecDepth 100000 in
set_option maxHeartbeats 4000000 in
theorem walk_FnFirst (v : Value) (xs : List ByteArray) (i : Int) (nw s : ByteArray) (w : World) (hv : StrsAt w v xs) (hz : ∀ x ∈ xs, x.size ≤ maxLen) (hl : xs.length ≤ maxLen) (hi : (Lit.int .i64 i).wf = true) (_hn : nw.size ≤ maxLen) (_hs : s.size ≤ maxLen) (hb : bulkS xs + nw.size + s.size ≤ 1048576) :
    Calls Try.prog 12 #[v, .int .i64 i, .string nw, .string s] w fun e w' => e = .returned (.bool true) ∧ Below w.heap.size w w' := by
  obtain ⟨hi0, hi1⟩ := bounds_i64 hi
  have HFi := Lib.hid (front hv hl (by omega))
  have hss : s.size ≤ 1048576 := by omega
  have hnn : nw.size ≤ 1048576 := by omega
  have HV := Lib.hid hv
  by_cases he : xs.length % 2 = 0
  · have HE := Lib.hid (front_even hv hl true (by simp [he]))
    have hfew := front_few he (by omega : bulkS xs ≤ 1048576)
    have hn : xs.length ≤ 1048576 := by have := bulkS_len xs; omega
    have HSo := Lib.hid (Solid xs v w hv (by omega))
    by_cases hne : xs.length = 0
    · have hnz : ((xs.length : Int) == 0) = true := by rw [hne]; rfl
      obtain ⟨A, c, rfl⟩ := hv.shape
      clear hv hz hl _hn _hs hb he hfew HSo hne HV
      generalize xs.length = n at *
      go_enter Try.func12, Try.ntmps12
      go_wp2_with (first | (go_at_call 18; (with_reducible refine HFi.out.mono ?_); rintro e w' ⟨rfl, rfl⟩) | (go_at_call 19; (with_reducible refine HE.out.mono ?_); rintro e w' ⟨rfl, rfl⟩))
      go_ret
      exact ⟨rfl, Below.refl _ _⟩
    · have hnz : ((xs.length : Int) == 0) = false := by rw [beq_eq_false_iff_ne]; omega
      by_cases hso : solidB (oldsOf xs) = true
      · rw [hso] at HSo
        obtain ⟨N, hN⟩ : ∃ N, xs.length = 2 * N := ⟨xs.length / 2, by omega⟩
        have hN1 : 1 ≤ N := by omega
        obtain ⟨A, c, rfl⟩ := hv.shape
        obtain ⟨_, hc, hcells⟩ := hv.cells
        have HC := Lib.hid hcells
        obtain ⟨Y, hY⟩ : ∃ Y, Y = repl (prs xs) s.data.toList true := ⟨_, rfl⟩
        have HTx := Lib.hid (fun (W : World) (hW : StrsAt W (.slice A xs.length c) xs) => rpTextA hfew (.slice A xs.length c) s W hW (by omega))
        have HIs := Lib.hid (fun (q : Nat) (p : ByteArray) (hp : xs[2 * q]? = some p) (u : Value) (W : World) (hW : StrsAt W u (xs ++ [p, nw])) => rpIsA (few_first hfew (by omega) (hfew.2.2 p (List.mem_of_getElem? hp)) (by omega)) u s ⟨Y.toArray⟩ W hW (by omega) (by rw [repl_first he nw hp]; exact hY.symm))
        rw [← hY] at HTx
        obtain ⟨b, hbt⟩ := and_small i
        obtain ⟨q, hq⟩ : ∃ q : Nat, (bits BinOp.and IntKind.i64 i 16777215).tmod (N : Int) = (q : Int) := ⟨b % N, by rw [hbt, Int.tmod_eq_emod_of_nonneg (by omega)]; simp⟩
        have hqN : q < N := by
          have := Int.tmod_lt_of_pos (bits BinOp.and IntKind.i64 i 16777215) (by omega : (0 : Int) < N)
          rw [hq] at this; omega
        obtain ⟨p, hp⟩ : ∃ p, xs[2 * q]? = some p := ⟨_, List.getElem?_eq_getElem (by omega)⟩
        obtain ⟨G, o, rfl, hG, hcell⟩ := HC.out _ p hp
        have hx2 : 2 * q + 1 < xs.length := by omega
        have HIq := Lib.hid (HIs.out q p hp)
        have HAp := Lib.hid (fun (W : World) (hW : StrsAt W (.slice (some ⟨G, o, none⟩) xs.length c) xs) => first_apps W xs G o c p nw hW (by omega))
        clear hbt hp
        have HL := Lib.hid hN
        clear hv hz hl _hn _hs hb he hfew hY hso hne hcells
        generalize xs.length = n at *
        have q1 : ((n : Int) / 2) = (N : Int) := by omega
        have hN0 : ¬ N = 0 := by omega
        have hN00 : ¬ (N : Int) = 0 := by omega
        clear hN
        go_enter Try.func12, Try.ntmps12
        have k1 : (2 : Int) * (q : Int) < (n : Int) := by omega
        go_wp2_with (first | (go_at_call 18; (with_reducible refine HFi.out.mono ?_); rintro e w' ⟨rfl, rfl⟩) | (go_at_call 19; (with_reducible refine HE.out.mono ?_); rintro e w' ⟨rfl, rfl⟩) | (go_at_call 20; (with_reducible refine HSo.out.mono ?_); rintro e w1 ⟨rfl, hB⟩; have HB1 := Lib.hid hB; have c0 : w1.cell? ⟨G, o + 2 * q, none⟩ = some (.string p) := (hB.cell (p := ⟨G, o + 2 * q, none⟩) hG).trans hcell; clear hB) | (go_at_call 22; (with_reducible refine (rpReplaces _).mono ?_); rintro e w2 ⟨rfl, hB⟩; have HB2 := Lib.hid (HB1.out.trans (hB.mono HB1.out.size)); obtain ⟨v1, W1, v2, W2, r1, r2, hS2, hB2⟩ := HAp.out w2 (HV.out.below HB2.out); have HS2 := Lib.hid hS2; have HB3 := Lib.hid (HB2.out.trans (hB2.mono HB2.out.size)); have HC2 := Lib.hid (HTx.out W2 (HV.out.below HB3.out)); clear hB hS2 hB2) | (at_builtin; (refine wpList_app (by rfl) _ _ 22 22 rfl _ _ _ rfl rfl r1 ?_)) | (at_builtin; (refine wpList_app (by rfl) _ _ 22 22 rfl _ _ _ rfl rfl r2 ?_)) | (go_at_call 25; (with_reducible refine HC2.out.mono ?_); rintro e w5 ⟨rfl, hB⟩; have HB5 := Lib.hid (HB3.out.trans (hB.mono HB3.out.size)); have HC3 := Lib.hid (HIq.out v2 w5 (HS2.out.below hB)); clear hB HC2) | (go_at_call 23; (with_reducible refine HC3.out.mono ?_); rintro e w6 ⟨rfl, hB⟩; have HB6 := Lib.hid (HB5.out.trans (hB.mono HB5.out.size)); clear hB HC3))
        go_ret
        exact ⟨rfl, HB6.out⟩
      · rw [Bool.not_eq_true] at hso
        rw [hso] at HSo
        obtain ⟨A, c, rfl⟩ := hv.shape
        clear hv hz hl _hn _hs hb he hfew hso hne HV
        generalize xs.length = n at *
        go_enter Try.func12, Try.ntmps12
        go_wp2_with (first | (go_at_call 18; (with_reducible refine HFi.out.mono ?_); rintro e w' ⟨rfl, rfl⟩) | (go_at_call 19; (with_reducible refine HE.out.mono ?_); rintro e w' ⟨rfl, rfl⟩) | (go_at_call 20; (with_reducible refine HSo.out.mono ?_); rintro e w1 ⟨rfl, hB⟩; have HB1 := Lib.hid hB; clear hB))
        go_ret
        exact ⟨rfl, HB1.out⟩
  · have HE := Lib.hid (front_even hv hl false (by simp [he]))
    clear hv hz hl _hn _hs hb he
    go_enter Try.func12, Try.ntmps12
    go_wp2_with (first | (go_at_call 18; (with_reducible refine HFi.out.mono ?_); rintro e w' ⟨rfl, rfl⟩) | (go_at_call 19; (with_reducible refine HE.out.mono ?_); rintro e w' ⟨rfl, rfl⟩))
    go_ret
    exact ⟨rfl, Below.refl _ _⟩
end Go.Proofs.Ytnigbgablginnaa

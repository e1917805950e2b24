/- rpKind, FnKind (printed by mkKind.py). -/
import Derived.Test.YtnigbgablginnaaKindW
set_option linter.unusedVariables false
namespace Go.Proofs.Ytnigbgablginnaa
open Go.RowKit Go.Lib

theorem KindIs.unique {qs : List BB} {a b : Nat} (h : KindIs qs a) (k : KindIs qs b) : a = b := by
  rcases h with ⟨h1, h2⟩ | ⟨h1, h2, h3⟩ | ⟨h1, h2, h3, h4⟩ | ⟨h1, h2, h3, h4⟩ <;> rcases k with ⟨k1, k2⟩ | ⟨k1, k2, k3⟩ | ⟨k1, k2, k3, k4⟩ | ⟨k1, k2, k3, k4⟩ <;> first | omega | (exfalso; first | exact h1 k1 | exact k1 h1 | exact h2 k2 | exact k2 h2 | exact h3 k3 | exact k3 h3)
def OldK (qs : List BB) (k : Nat) : Prop := ∀ j q, j < k → qs[j]? = some q → q.1.size = 1
theorem OldK.succ {qs : List BB} {k : Nat} {q : BB} (h : OldK qs k) (hq : qs[k]? = some q) (h2 : q.1.size = 1) : OldK qs (k + 1) := fun j r hj hr => by
  rcases Nat.lt_or_eq_of_le (Nat.le_of_lt_succ hj) with h' | rfl
  · exact h j r h' hr
  · obtain rfl := Option.some.inj (hq.symm.trans hr); exact h2
theorem NewK.down {qs : List BB} {k : Nat} (h : NewK qs (k + 1)) : NewK qs k := fun j r hj hr => h j r (by omega) hr

set_option maxRecDepth 100000 in
set_option maxHeartbeats 4000000 in
theorem rpKind (xs : List ByteArray) (v : Value) (w : World) (hv : StrsAt w v xs) (he : xs.length % 2 = 0) (hx : xs.length ≤ 2147483647) (hs : ∀ x ∈ xs, x.size ≤ 2147483647) :
    Calls Try.prog 32 #[v] w (KindR (pairUp xs) w) := by
  have HO := Lib.hid (Olds xs v w hv hx)
  have hp := pairsOf_up xs he
  obtain ⟨qs, hqs⟩ : ∃ qs, qs = pairUp xs := ⟨_, rfl⟩
  have HY : Hid (oldsOf xs = qs.map (·.1)) := Lib.hid (by rw [hqs]; rfl)
  rw [← hqs] at hp ⊢
  obtain ⟨A, c, rfl⟩ := hv.shape
  obtain ⟨_, hcc, hcells⟩ := hv.cells
  have HC := Lib.hid hcells
  have HP := Lib.hid hp
  have HS := Lib.hid hs
  obtain ⟨K, hK⟩ : ∃ K, K = qs.length := ⟨_, rfl⟩
  have hn2 : xs.length = 2 * K := by rw [hK]; exact hp.1
  have HYL : Hid ((oldsOf xs).length = K) := Lib.hid (by rw [HY.out, List.length_map, hK])
  have HL := Lib.hid hK.symm
  generalize hn : xs.length = n at *
  have HN := Lib.hid hn2
  have HNx := Lib.hid hn
  have hKb : K ≤ 1073741824 := by omega
  clear hn hn2 hK hqs hp hcells hv hs he
  by_cases hsi : isSingle qs
  · have HK : Hid (KindIs qs 0) := Lib.hid (.inl ⟨hsi, rfl⟩)
    obtain ⟨p, u, hq, hp1⟩ := hsi
    have hy0 : (oldsOf xs)[0]? = some p := by rw [HY.out, hq]; rfl
    have hK1 : K = 1 := by have := HL.out; rw [hq] at this; exact this.symm
    subst hK1
    have hg2 : decide (1 < (p.size : Int)) = true := decide_eq_true (by omega)
    have hg3 : decide (1 < p.size) = true := decide_eq_true hp1
    have HY0 := Lib.hid hy0
    clear hq hy0
    go_enter Try.func32, Try.ntmps32
    go_wp2_with fail
    refine HO.out.mono ?_
    rintro e w1 ⟨v', rfl, hs1, hB⟩
    obtain ⟨A', c', rfl⟩ := hs1.shape
    obtain ⟨_, hcc', hcells'⟩ := hs1.cells
    obtain ⟨G', o', rfl, hGl', d0⟩ := hcells' 0 p HY0.out
    rw [Nat.add_zero] at d0
    have HB := Lib.hid hB
    rw [HYL.out] at hcc' ⊢
    clear hs1 hcells' hB
    go_wp2_with fail
    go_ret
    exact ⟨0, rfl, HK.out, HB.out⟩
  · have HNS := Lib.hid hsi
    by_cases h1 : K = 1
    · have hq1 : ∃ q, qs[0]? = some q := ⟨_, List.getElem?_eq_getElem (by have := HL.out; omega)⟩
      obtain ⟨q0, hq0⟩ := hq1
      have hnq : ¬ 1 < q0.1.size := fun e => hsi ⟨q0.1, q0.2, by
        have hl1 : qs.length = 1 := by have := HL.out; omega
        match qs, hl1 with
        | [a], _ => have : some a = some q0 := hq0
                    cases this; rfl, e⟩
      have hg1 : ((K : Int) == 1) = true := by rw [h1]; rfl
      have hg2 : decide (1 < (q0.1.size : Int)) = false := decide_eq_false (by omega)
      have hg3 : decide (1 < q0.1.size) = false := decide_eq_false hnq
      have hK0 : (0 : Int) < (K : Int) := by omega
      have HY0 : Hid ((oldsOf xs)[0]? = some q0.1) := Lib.hid (by rw [HY.out, List.getElem?_map, hq0]; rfl)
      clear hq0 hnq h1 hsi
      go_enter Try.func32, Try.ntmps32
      go_wp2_with fail
      refine HO.out.mono ?_
      rintro e w1 ⟨v', rfl, hs1, hB⟩
      obtain ⟨A', c', rfl⟩ := hs1.shape
      obtain ⟨_, hcc', hcells'⟩ := hs1.cells
      have HC' := Lib.hid hcells'
      have HB := Lib.hid hB
      clear hs1 hcells' hB
      rw [HYL.out] at hcc' ⊢
      obtain ⟨G0, o0, hA0, _, dd0⟩ := HC'.out 0 q0.1 HY0.out
      subst hA0
      rw [Nat.add_zero] at dd0
      go_wp2_with fail
      go_loop [4, 20] (fun s4 iv => ∃ (k : Nat) (z : Int), k ≤ K ∧ iv = .int .i64 k ∧ s4 = .int .i64 z ∧ Hid (OldK qs k) ∧ Hid ((z = 2 ∧ NewK qs k) ∨ (z = 3 ∧ ¬ NewK qs k))) (fun _ iv => K - (RowKit.intOf iv).toNat)
      case atStart => exact ⟨0, 2, Nat.zero_le _, rfl, rfl, Lib.hid (fun j q h => absurd h (Nat.not_lt_zero _)), Lib.hid (.inl ⟨rfl, fun j q h => absurd h (Nat.not_lt_zero _)⟩)⟩
      case round =>
        obtain ⟨k, z, hk, rfl, rfl, HOK, HZ⟩ := hrel
        by_cases hlt : k < K
        · obtain ⟨q, hq⟩ : ∃ q, qs[k]? = some q := ⟨_, List.getElem?_eq_getElem (by have := HL.out; omega)⟩
          have hy0 : (oldsOf xs)[k]? = some q.1 := by rw [HY.out, List.getElem?_map, hq]; rfl
          have hx1 : xs[2 * k + 1]? = some q.2 := (HP.out.2 k q hq).2
          obtain ⟨G', o', eA', hGl', d0⟩ := HC'.out k q.1 hy0
          obtain ⟨G, o, rfl, hGl, d1⟩ := HC.out (2 * k + 1) q.2 hx1
          cases eA'
          have d1' := Eq.trans (HB.out.cell (p := ⟨_, _, none⟩) hGl) d1
          have hz0 := HS.out q.1 (by have := List.mem_of_getElem? (HP.out.2 k q hq).1; exact this)
          have hz1 := HS.out q.2 (List.mem_of_getElem? hx1)
          have HQ := Lib.hid hq
          have hkn : 2 * (k : Int) + 1 < (n : Int) := by have := HN.out; omega
          clear hq hy0 hx1 d1
          by_cases h1 : q.1.size = 1
          · have hb1 : ((q.1.size : Int) != 1) = false := by rw [h1]; rfl
            have H1 := Lib.hid h1
            clear h1
            by_cases h2 : q.2.size = 1
            · have hb2 : ((q.2.size : Int) != 1) = false := by rw [h2]; rfl
              have H2 := Lib.hid h2
              clear h2
              go_wp2_with fail
              go_round
              case rel => exact ⟨k + 1, z, by omega, by go_num, rfl, Lib.hid (HOK.out.succ HQ.out H1.out), Lib.hid (HZ.out.elim (fun h => .inl ⟨h.1, h.2.succ HQ.out H2.out⟩) (fun h => .inr ⟨h.1, fun e => h.2 (e.down)⟩))⟩
              case measure => simp [RowKit.intOf]; omega
            · have hb2 : ((q.2.size : Int) != 1) = true := by rw [bne_iff_ne]; omega
              have H2 := Lib.hid h2
              clear h2
              go_wp2_with fail
              go_round
              case rel => exact ⟨k + 1, 3, by omega, by go_num, rfl, Lib.hid (HOK.out.succ HQ.out H1.out), Lib.hid (.inr ⟨rfl, fun e => H2.out (e k q (Nat.lt_succ_self _) HQ.out)⟩)⟩
              case measure => simp [RowKit.intOf]; omega
          · have hb1 : ((q.1.size : Int) != 1) = true := by rw [bne_iff_ne]; omega
            have HK : Hid (KindIs qs 1) := Lib.hid (.inr (.inl ⟨HNS.out, fun e => h1 (e q (List.mem_of_getElem? HQ.out)), rfl⟩))
            clear h1
            go_wp2_with fail
            go_ret
            exact ⟨1, rfl, HK.out, HB.out⟩
        · obtain rfl : K = k := by omega
          have hall : oldOne qs := fun q hq => by
            obtain ⟨j, hj, e⟩ := List.getElem_of_mem hq
            exact HOK.out j q (by have := HL.out; omega) (by rw [List.getElem?_eq_getElem hj, e])
          have hnew : NewK qs K ↔ newOne qs := ⟨fun h q hq => by
            obtain ⟨j, hj, e⟩ := List.getElem_of_mem hq
            exact h j q (by have := HL.out; omega) (by rw [List.getElem?_eq_getElem hj, e]), fun h j q _ hq => h q (List.mem_of_getElem? hq)⟩
          have HA := Lib.hid hall
          have HNE := Lib.hid hnew
          clear hall hnew
          rcases HZ.out with ⟨hz, hn⟩ | ⟨hz, hn⟩
          · subst hz
            have HK : Hid (KindIs qs 2) := Lib.hid (.inr (.inr (.inl ⟨HNS.out, HA.out, HNE.out.1 hn, rfl⟩)))
            clear hn HZ
            go_wp2_with fail
            go_ret
            exact ⟨2, rfl, HK.out, HB.out⟩
          · subst hz
            have HK : Hid (KindIs qs 3) := Lib.hid (.inr (.inr (.inr ⟨HNS.out, HA.out, fun h => hn (HNE.out.2 h), rfl⟩)))
            clear hn HZ
            go_wp2_with fail
            go_ret
            exact ⟨3, rfl, HK.out, HB.out⟩
    · have hg1 : ((K : Int) == 1) = false := beq_eq_false_iff_ne.2 (by omega)
      clear h1 hsi
      go_enter Try.func32, Try.ntmps32
      go_wp2_with fail
      refine HO.out.mono ?_
      rintro e w1 ⟨v', rfl, hs1, hB⟩
      obtain ⟨A', c', rfl⟩ := hs1.shape
      obtain ⟨_, hcc', hcells'⟩ := hs1.cells
      have HC' := Lib.hid hcells'
      have HB := Lib.hid hB
      clear hs1 hcells' hB
      rw [HYL.out] at hcc' ⊢
      go_wp2_with fail
      go_loop [4, 20] (fun s4 iv => ∃ (k : Nat) (z : Int), k ≤ K ∧ iv = .int .i64 k ∧ s4 = .int .i64 z ∧ Hid (OldK qs k) ∧ Hid ((z = 2 ∧ NewK qs k) ∨ (z = 3 ∧ ¬ NewK qs k))) (fun _ iv => K - (RowKit.intOf iv).toNat)
      case atStart => exact ⟨0, 2, Nat.zero_le _, rfl, rfl, Lib.hid (fun j q h => absurd h (Nat.not_lt_zero _)), Lib.hid (.inl ⟨rfl, fun j q h => absurd h (Nat.not_lt_zero _)⟩)⟩
      case round =>
        obtain ⟨k, z, hk, rfl, rfl, HOK, HZ⟩ := hrel
        by_cases hlt : k < K
        · obtain ⟨q, hq⟩ : ∃ q, qs[k]? = some q := ⟨_, List.getElem?_eq_getElem (by have := HL.out; omega)⟩
          have hy0 : (oldsOf xs)[k]? = some q.1 := by rw [HY.out, List.getElem?_map, hq]; rfl
          have hx1 : xs[2 * k + 1]? = some q.2 := (HP.out.2 k q hq).2
          obtain ⟨G', o', rfl, hGl', d0⟩ := HC'.out k q.1 hy0
          obtain ⟨G, o, rfl, hGl, d1⟩ := HC.out (2 * k + 1) q.2 hx1
          have d1' := Eq.trans (HB.out.cell (p := ⟨_, _, none⟩) hGl) d1
          have hz0 := HS.out q.1 (by have := List.mem_of_getElem? (HP.out.2 k q hq).1; exact this)
          have hz1 := HS.out q.2 (List.mem_of_getElem? hx1)
          have HQ := Lib.hid hq
          have hkn : 2 * (k : Int) + 1 < (n : Int) := by have := HN.out; omega
          clear hq hy0 hx1 d1
          by_cases h1 : q.1.size = 1
          · have hb1 : ((q.1.size : Int) != 1) = false := by rw [h1]; rfl
            have H1 := Lib.hid h1
            clear h1
            by_cases h2 : q.2.size = 1
            · have hb2 : ((q.2.size : Int) != 1) = false := by rw [h2]; rfl
              have H2 := Lib.hid h2
              clear h2
              go_wp2_with fail
              go_round
              case rel => exact ⟨k + 1, z, by omega, by go_num, rfl, Lib.hid (HOK.out.succ HQ.out H1.out), Lib.hid (HZ.out.elim (fun h => .inl ⟨h.1, h.2.succ HQ.out H2.out⟩) (fun h => .inr ⟨h.1, fun e => h.2 (e.down)⟩))⟩
              case measure => simp [RowKit.intOf]; omega
            · have hb2 : ((q.2.size : Int) != 1) = true := by rw [bne_iff_ne]; omega
              have H2 := Lib.hid h2
              clear h2
              go_wp2_with fail
              go_round
              case rel => exact ⟨k + 1, 3, by omega, by go_num, rfl, Lib.hid (HOK.out.succ HQ.out H1.out), Lib.hid (.inr ⟨rfl, fun e => H2.out (e k q (Nat.lt_succ_self _) HQ.out)⟩)⟩
              case measure => simp [RowKit.intOf]; omega
          · have hb1 : ((q.1.size : Int) != 1) = true := by rw [bne_iff_ne]; omega
            have HK : Hid (KindIs qs 1) := Lib.hid (.inr (.inl ⟨HNS.out, fun e => h1 (e q (List.mem_of_getElem? HQ.out)), rfl⟩))
            clear h1
            go_wp2_with fail
            go_ret
            exact ⟨1, rfl, HK.out, HB.out⟩
        · obtain rfl : K = k := by omega
          have hall : oldOne qs := fun q hq => by
            obtain ⟨j, hj, e⟩ := List.getElem_of_mem hq
            exact HOK.out j q (by have := HL.out; omega) (by rw [List.getElem?_eq_getElem hj, e])
          have hnew : NewK qs K ↔ newOne qs := ⟨fun h q hq => by
            obtain ⟨j, hj, e⟩ := List.getElem_of_mem hq
            exact h j q (by have := HL.out; omega) (by rw [List.getElem?_eq_getElem hj, e]), fun h j q _ hq => h q (List.mem_of_getElem? hq)⟩
          have HA := Lib.hid hall
          have HNE := Lib.hid hnew
          clear hall hnew
          rcases HZ.out with ⟨hz, hn⟩ | ⟨hz, hn⟩
          · subst hz
            have HK : Hid (KindIs qs 2) := Lib.hid (.inr (.inr (.inl ⟨HNS.out, HA.out, HNE.out.1 hn, rfl⟩)))
            clear hn HZ
            go_wp2_with fail
            go_ret
            exact ⟨2, rfl, HK.out, HB.out⟩
          · subst hz
            have HK : Hid (KindIs qs 3) := Lib.hid (.inr (.inr (.inr ⟨HNS.out, HA.out, fun h => hn (HNE.out.2 h), rfl⟩)))
            clear hn HZ
            go_wp2_with fail
            go_ret
            exact ⟨3, rfl, HK.out, HB.out⟩

set_option maxRecDepth 100000 in
set_option maxHeartbeats 2000000 in
theorem walk_FnKind (v : Value) (xs : List ByteArray) (w : World) (hv : StrsAt w v xs) (hz : ∀ x ∈ xs, x.size ≤ maxLen) (hl : xs.length ≤ maxLen) :
    Calls Try.prog 8 #[v] w fun e w' => e = .returned (.bool true) ∧ Below w.heap.size w w' := by
  unfold maxLen at hz hl
  have HZ := Lib.hid hz
  clear hz
  have hF := zzFits1 xs v w hv hl HZ.out
  have HE := Lib.hid (rpEven xs v w hv hl)
  by_cases hfit : fitsB xs = true
  · rw [hfit] at hF
    have HFi := Lib.hid hF
    have hx := (fitsB_iff.1 hfit).1
    have HX := Lib.hid (fitsB_iff.1 hfit).2
    clear hF hfit
    by_cases he : xs.length % 2 = 0
    · have HEv : Hid (evenB xs = true) := Lib.hid (by unfold evenB; rw [he]; rfl)
      rw [HEv.out] at HE
      have HK := Lib.hid (impKind xs (pairUp xs) v w hv (pairsOf_up xs he) hx HX.out)
      have HR := Lib.hid (fun W (hW : StrsAt W v xs) => rpKind xs v W hW he hx HX.out)
      have HV := Lib.hid hv
      obtain ⟨A, c, rfl⟩ := hv.shape
      clear hv
      go_enter Try.func8, Try.ntmps8
      go_wp2_with (first | (go_at_call 18; (with_reducible refine HFi.out.mono ?_); rintro e w' ⟨rfl, rfl⟩) | (go_at_call 19; (with_reducible refine HE.out.mono ?_); rintro e w' ⟨rfl, rfl⟩))
      refine HK.out.mono ?_
      rintro e w1 ⟨k, rfl, hk, hB⟩
      have HB := Lib.hid hB
      have HKk := Lib.hid hk
      clear hB hk
      go_wp2_with fail
      refine (HR.out w1 (HV.out.below HB.out)).mono ?_
      rintro e w2 ⟨k', rfl, hk', hB2⟩
      obtain rfl : k = k' := HKk.out.unique hk'
      have HB2 := Lib.hid (HB.out.trans (hB2.mono HB.out.size))
      clear hB2 hk'
      go_wp2_with fail
      go_ret
      exact ⟨rfl, HB2.out⟩
    · have HEv : Hid (evenB xs = false) := Lib.hid (by unfold evenB; rw [decide_eq_false he])
      rw [HEv.out] at HE
      obtain ⟨A, c, rfl⟩ := hv.shape
      clear hv
      go_enter Try.func8, Try.ntmps8
      go_wp2_with (first | (go_at_call 18; (with_reducible refine HFi.out.mono ?_); rintro e w' ⟨rfl, rfl⟩) | (go_at_call 19; (with_reducible refine HE.out.mono ?_); rintro e w' ⟨rfl, rfl⟩))
      go_ret
      exact ⟨rfl, Below.refl _ _⟩
  · have hff : fitsB xs = false := by simpa using hfit
    rw [hff] at hF
    have HFi := Lib.hid hF
    clear hF hfit hff
    obtain ⟨A, c, rfl⟩ := hv.shape
    clear hv
    go_enter Try.func8, Try.ntmps8
    go_wp2_with (go_at_call 18; (with_reducible refine HFi.out.mono ?_); rintro e w' ⟨rfl, rfl⟩)
    go_ret
    exact ⟨rfl, Below.refl _ _⟩
end Go.Proofs.Ytnigbgablginnaa


/- gobytes.IndexRune: the search for a code point of several bytes. -/
import Derived.Test.YtpaieadnicmplaaDoorBIRn
import Derived.Test.YtpaieadnicmplaaDoorIRm
import Derived.WalkMore
set_option linter.unusedVariables false
namespace Go.Proofs.YtpaieadnicmplaaDoor
open Go.RowKit Go.Lib
attribute [local go_sem] off_normal off_exit off_ret off_panic hop_normal hop_exit hop_ret hop_panic

theorem quiet_at {P : Program} {f : FuncId} {args : Array Value} {w : World} {a n : Nat} {v : Value} (h : Calls P f args (w.drewN (a + n)) fun e w' => e = .returned v ∧ w' = w.drewN (a + n)) : Calls P f args (w.drewN (a + n)) fun e w'' => e = .returned v ∧ ∃ m, w'' = w.drewN (a + m) :=
  h.mono fun _ _ ⟨he, hm⟩ => ⟨he, n, hm⟩
set_option maxRecDepth 100000 in
set_option maxHeartbeats 4000000 in
theorem gbIndexRune_main (s t : ByteArray) (r : Nat) (g c1 : Nat) (w : World) (hBs : Lib.Bytes w g 0 s) (hg0 : g < w.heap.size) (hcap : s.size ≤ c1) (hs : s.size < 4294967281) (he : Utf8.encode (r : Int) = t) (hv : (0 ≤ (r : Int) ∧ (r : Int) < 55296) ∨ (57344 ≤ (r : Int) ∧ (r : Int) ≤ 1114111)) (h128 : 128 ≤ r) (hf : ((r : Int) == 65533) = false) (L : Nat) (hL : t.size = L + 1) (h1 : 1 ≤ L) (h3 : L ≤ 3) (Hhit : Hid (∀ k, OccB s t k → (∀ j, j < k → ¬ OccB s t j) → fP s (isR (r : Int)) (starts s 0) = k)) (Hmiss : Hid ((∀ j, ¬ OccB s t j) → fP s (isR (r : Int)) (starts s 0) = -1)) :
    Calls Tryd.prog 21 #[.slice (some ⟨g, 0, none⟩) s.size c1, .int .i32 (r : Int)] w fun e w' => e = .returned (.int .i64 (fP s (isR (r : Int)) (starts s 0))) ∧ Below w.heap.size w w' := by
  have hd : decide ((r : Int) < 128) = false := decide_eq_false (by omega)
  have hd' : decide (r < 128) = false := decide_eq_false (by omega)
  have HBy := Lib.hid hBs
  have HE := Lib.hid he
  clear hBs he
  go_enter Tryd.func21, Tryd.ntmps21
  go_wp2_with (go_at_call 38; refine (ValidRune_yes (r : Int) _ hv).mono ?_; rintro e w' ⟨rfl, rfl⟩)
  refine wp_scope_hop 1 [] (by kernel_rfl) (fun l' h => by cases h) ?_
  intro rest1 hf1
  have HF1 := Lib.hid hf1
  clear hf1
  go_wp2_with fail
  refine (encB r (by omega) w.heap.size w _ ((Below.refl _ w).alloc (Nat.le_refl _) _) (fun j hj => by rw [World.cell?_alloc_at _ _ _ _ rfl]; match j, hj with | 0, _ => rfl | 1, _ => rfl | 2, _ => rfl | 3, _ => rfl) (fun j hj => frozen_of_row _ w.heap.size j _ _ (heap_alloc_last' _ _))).mono ?_
  rintro e w1 ⟨rfl, hBt, hB1⟩
  rw [HE.out] at hBt
  rw [HE.out, hL, show ((L + 1 : Nat) : Int) = (L : Int) + 1 from rfl]
  have CS := Lib.hid (bytes_below HBy.out hB1 hg0)
  have CT := Lib.hid hBt
  have HB := Lib.hid hB1
  clear hBt hB1
  go_wp2
  go_loopg [11, 12] (s.size + 1) (fun gk iv fv wx => ∃ (k f q : Nat), iv = .int .i64 k ∧ fv = .int .i64 f ∧ wx = w1.drewN q ∧ L ≤ k ∧ f ≤ k ∧ k ≤ s.size + L ∧ s.size + 1 ≤ k + gk ∧ Hid (∀ j, j + L < k → ¬ OccB s t j))
  case atStart => exact ⟨L, 0, 0, rfl, rfl, rfl, Nat.le_refl _, Nat.zero_le _, by omega, by omega, fun j h => by omega⟩
  case round =>
    obtain ⟨k, f, q, rfl, rfl, rfl, hLk, hfk, hks, hgk, HN⟩ := hrel
    have hL1 : t.size ≤ L + 1 := by omega
    have hL2 : L + 1 ≤ t.size := by omega
    have HL := Lib.hid hL
    clear hL
    by_cases hk : k < s.size
    · go_wp2
      refine wp_scope_hop 0 [1] (by kernel_rfl) (fun l' h => by cases List.mem_singleton.1 h; kernel_rfl) ?_
      intro rest0 hf0
      have HF0 := Lib.hid hf0
      clear hf0
      have hLt : L < t.size := by omega
      have cS : w1.cell? ⟨g, k, none⟩ = some (.int .u8 (s[k].toNat : Int)) := by have := CS.out k hk; rwa [Nat.zero_add] at this
      have cT : w1.cell? ⟨w.heap.size, L, none⟩ = some (.int .u8 (t[L].toNat : Int)) := by have := CT.out L hLt; rwa [Nat.zero_add] at this
      have hL4 : (L : Int) < 4 := by omega
      have hL4' : L < 4 := by omega
      by_cases heq : (s[k].toNat : Int) = (t[L].toNat : Int)
      case' pos =>
        have hb : ((s[k].toNat : Int) != (t[L].toNat : Int)) = false := by simpa using heq
        have HE1 : Hid (s.get! k = t.get! L) := occ_byte hk hLt heq
        clear heq
        go_wp2
        go_quiet (fail)
        rw [World.drewN_drewN]
        generalize q + _ = q1
        clear cS cT
        go_wp2
        obtain ⟨k', hk'1, hk'2, hk'3, hk'4, HN', HE', hkk⟩ : ∃ k' : Nat, L ≤ k' ∧ k' < s.size ∧ f ≤ k' ∧ s.size + 1 ≤ k' + gk ∧ Hid (∀ j, j + L < k' → ¬ OccB s t j) ∧ Hid (s.get! k' = t.get! L) ∧ k' = k := ⟨k, hLk, hk, hfk, hgk, HN, HE1, rfl⟩
        subst hkk
      case' neg =>
        have hb : ((s[k].toNat : Int) != (t[L].toNat : Int)) = true := by simpa using heq
        have HE1 : Hid (s.get! k ≠ t.get! L) := occ_nbyte hk hLt heq
        clear heq
        go_wp2
        go_quiet (fail)
        rw [World.drewN_drewN]
        generalize q + _ = q0
        obtain ⟨o', ho', hBx⟩ : ∃ o', (if c1 = k + 1 then (some ⟨g, 0, none⟩ : Option Addr) else some ⟨g, k + 1, none⟩) = some ⟨g, o', none⟩ ∧ Lib.Bytes w1 g o' (s.extract (k + 1) s.size) := by
          by_cases h : c1 = k + 1
          · rw [if_pos h]; exact ⟨0, rfl, fun i hi => absurd hi (by rw [ByteArray.size_extract]; omega)⟩
          · rw [if_neg h]; exact ⟨k + 1, rfl, by have := byt_fromR CS.out (k + 1) (by omega); rwa [Nat.zero_add] at this⟩
        have hxs : (s.extract (k + 1) s.size).size = s.size - (k + 1) := by rw [ByteArray.size_extract]; omega
        have cI : ∀ n, Calls Tryd.prog 36 #[.slice (some ⟨g, o', none⟩) (s.size - (k + 1)) (c1 - (k + 1)), .int .u8 (t[L].toNat : Int)] (w1.drewN (q0 + n)) fun e w' => e = .returned (.int .i64 (Lib.indexByte (s.extract (k + 1) s.size).data.toList t[L])) ∧ w' = w1.drewN (q0 + n) := fun n => by
          have := gbIndexByte g o' (c1 - (k + 1)) (s.extract (k + 1) s.size) (t[L].toNat : Int) (w1.drewN (q0 + n)) (by omega) (by have := (t[L]).toNat_lt; omega) (by rw [hxs]; omega) (Lib.Bytes.drewN hBx (q0 + n))
          rw [byte_back, hxs] at this
          exact this.mono fun _ _ ⟨he, hw⟩ => ⟨he, hw.symm⟩
        have hlast : t[L] = t.get! L := (get_lt t L hLt).symm
        have v1 : IntKind.i64.wrap ((k : Int) + 1) = k + 1 := IntWalk.i64_in _ (by omega)
        have v3 : 0 ≤ (k : Int) + 1 := by omega
        have v4 : (k : Int) + 1 ≤ s.size := by omega
        have v5 : ((k : Int) + 1).toNat = k + 1 := by omega
        clear hBx hxs cS
        rcases ibc (s.extract (k + 1) s.size).data.toList t[L] with hm | ⟨o, ho⟩
        case' inl =>
          have HA : Hid (∀ j, ¬ OccB s t j) := noocc_all HL.out HN.out HE1.out (by rw [hlast] at hm; exact tail_none hm)
          rw [hm] at cI
          have CI := Lib.hid cI
          clear hm hlast cI
          go_wp2
          go_quiet ((go_at_call 36; exact quiet_at (CI.out _)))
          rw [World.drewN_drewN]
          generalize q0 + _ = q1
          clear CI ho' v1 v3 v4 v5
          go_wp2
          rw [hop_ret]
          go_wp2
          rw [hop_ret]
          go_wp2
          go_ret
          exact ⟨ret_int (Hmiss.out HA.out).symm, belowDrewN HB.out _⟩
        case' inr =>
          obtain ⟨ht1, ht2, ht3⟩ := tail_some (by rw [hlast] at ho; exact ho)
          have HA : Hid (∀ j, j + L < k + 1 + o → ¬ OccB s t j) := noocc_far HL.out HN.out HE1.out ht3
          have HE2 : Hid (s.get! (k + 1 + o) = t.get! L) := ht2
          rw [ho] at cI
          have CI := Lib.hid cI
          clear ho hlast ht2 ht3 cI
          go_wp2
          go_quiet ((go_at_call 36; exact quiet_at (CI.out _)))
          rw [World.drewN_drewN]
          generalize q0 + _ = q1
          clear CI ho' cT v1 v3 v4 v5
          have z1 : IntKind.i64.wrap ((o : Int) + 1) = o + 1 := IntWalk.i64_in _ (by omega)
          have z2 : IntKind.i64.wrap ((k : Int) + ((o : Int) + 1)) = (k : Int) + ((o : Int) + 1) := IntWalk.i64_in _ (by omega)
          have z3 : ¬ (o : Int) < 0 := by omega
          go_wp2
          clear z1 z2 z3
          rw [show ((k : Int) + ((o : Int) + 1)) = ((k + 1 + o : Nat) : Int) by omega]
          obtain ⟨k', hk'1, hk'2, hk'3, hk'4, HN', HE', hkk⟩ : ∃ k' : Nat, L ≤ k' ∧ k' < s.size ∧ f ≤ k' ∧ s.size + 1 ≤ k' + gk ∧ Hid (∀ j, j + L < k' → ¬ OccB s t j) ∧ Hid (s.get! k' = t.get! L) ∧ k + 1 + o = k' := ⟨k + 1 + o, by omega, ht1, by omega, by omega, HA, HE2, rfl⟩
          rw [hkk]
          clear hkk
      all_goals
        go_loopg [14] L (fun gk jv wx => ∃ m q2 : Nat, jv = .int .i64 m ∧ wx = w1.drewN q2 ∧ 1 ≤ m ∧ m ≤ L + 1 ∧ L + 1 ≤ m + gk ∧ Hid (∀ q, 1 ≤ q → q < m → s.get! (k' - q) = t.get! (L - q)))
        case atStart => exact ⟨1, q1, rfl, rfl, Nat.le_refl _, by omega, by omega, fun q h1 h2 => by omega⟩
        case round =>
          obtain ⟨m, q2, rfl, rfl, hm1, hm2, hmg, HQ⟩ := hrel
          by_cases hmL : m ≤ L
          · have hkm : k' - m < s.size := by omega
            have hLm : L - m < t.size := by omega
            have cS : w1.cell? ⟨g, k' - m, none⟩ = some (.int .u8 (s[k' - m].toNat : Int)) := by have := CS.out (k' - m) hkm; rwa [Nat.zero_add] at this
            have cT : w1.cell? ⟨w.heap.size, L - m, none⟩ = some (.int .u8 (t[L - m].toNat : Int)) := by have := CT.out (L - m) hLm; rwa [Nat.zero_add] at this
            have v1 : IntKind.i64.wrap ((k' : Int) - m) = k' - m := IntWalk.i64_in _ (by omega)
            have v2 : IntKind.i64.wrap ((L : Int) - m) = L - m := IntWalk.i64_in _ (by omega)
            have v3 : 0 ≤ (k' : Int) - m := by omega
            have v4 : (k' : Int) - m < s.size := by omega
            have v5 : ((k' : Int) - m).toNat = k' - m := by omega
            have v6 : 0 ≤ (L : Int) - m := by omega
            have v7 : (L : Int) - m < 4 := by omega
            have v8 : ((L : Int) - m).toNat = L - m := by omega
            have y1 : IntKind.i64.wrap ((m : Int) + 1) = m + 1 := IntWalk.i64_in _ (by omega)
            have y2 : (m : Int) < (L : Int) + 1 := by omega
            have y3 : IntKind.i64.wrap ((f : Int) + 1) = f + 1 := IntWalk.i64_in _ (by omega)
            have y4 : IntKind.i64.wrap ((k' : Int) + 1) = k' + 1 := IntWalk.i64_in _ (by omega)
            by_cases heq : (s[k' - m].toNat : Int) = (t[L - m].toNat : Int)
            · have hb : ((s[k' - m].toNat : Int) != (t[L - m].toNat : Int)) = false := by simpa using heq
              have HE2 : Hid (s.get! (k' - m) = t.get! (L - m)) := occ_byte hkm hLm heq
              clear heq
              go_wp2
              go_quiet (fail)
              rw [World.drewN_drewN]
              generalize q2 + _ = q3
              clear cS cT v1 v2 v3 v4 v5 v6 v7 v8
              go_wp2
              go_roundg (gk - 1)
              case measure => omega
              case rel => exact ⟨m + 1, q3, by go_num, rfl, by omega, by omega, by omega, occ_succ HQ.out HE2.out⟩
            · have hb : ((s[k' - m].toNat : Int) != (t[L - m].toNat : Int)) = true := by simpa using heq
              have HE2 : Hid (s.get! (k' - m) ≠ t.get! (L - m)) := occ_nbyte hkm hLm heq
              clear heq
              go_wp2
              go_quiet (fail)
              rw [World.drewN_drewN]
              generalize q2 + _ = q3
              clear cS cT v1 v2 v3 v4 v5 v6 v7 v8
              have HN3 : Hid (∀ j, j + L < k' + 1 → ¬ OccB s t j) := noocc_next HL.out HN'.out hmL HE2.out hk'1
              go_wp2
              refine wp_goto ?_
              simp only [inBlock_goto, then_goto]
              rw [hop_goto]
              cases HF0.out
              clear HF0
              have y6 : IntKind.i64.wrap (4 + ((k' : Int) + 1) / 16) = 4 + ((k' : Int) + 1) / 16 := IntWalk.i64_in _ (by omega)
              by_cases y7 : 4 + ((k' : Int) + 1) / 16 ≤ (f : Int) + 1
              · by_cases y8 : (k' : Int) + 1 < (s.size : Int)
                · go_wp2_with fail
                  refine wp_goto ?_
                  rw [off_goto]
                  refine ⟨by simp, ?_⟩
                  simp only [inBlock_goto, then_goto]
                  rw [hop_goto]
                  cases HF1.out
                  clear HF1
                  have hL0 : L - 1 < t.size := by omega
                  have hLt' : L < t.size := by omega
                  have cT : w1.cell? ⟨w.heap.size, L, none⟩ = some (.int .u8 (t[L].toNat : Int)) := by have := CT.out L hLt'; rwa [Nat.zero_add] at this
                  have cT1 : w1.cell? ⟨w.heap.size, L - 1, none⟩ = some (.int .u8 (t[L - 1].toNat : Int)) := by have := CT.out (L - 1) hL0; rwa [Nat.zero_add] at this
                  have v1 : IntKind.i64.wrap ((L : Int) - 1) = L - 1 := IntWalk.i64_in _ (by omega)
                  have v2 : 0 ≤ (L : Int) - 1 := by omega
                  have v3 : (L : Int) - 1 < 4 := by omega
                  have v4 : ((L : Int) - 1).toNat = L - 1 := by omega
                  have v5 : (L : Int) < 4 := by omega
                  iterate 5 go_step
                  refine wp_cond_false rfl ?_
                  go_wp2
                  go_step3
                  go_wp2
                  go_step3
                  go_wp2
                  clear v1 v2 v3 v4 v5 cT cT1
                  go_loopg [11] (s.size + 1) (fun gk iv wx => ∃ n q : Nat, iv = .int .i64 n ∧ wx = w1.drewN q ∧ L ≤ n ∧ n ≤ s.size ∧ s.size + 1 ≤ n + gk ∧ Hid (∀ j, j + L < n → ¬ OccB s t j))
                  case atStart => exact ⟨k' + 1, q3, by go_num, rfl, by omega, by omega, by omega, HN3⟩
                  case round =>
                    obtain ⟨n, q4, rfl, rfl, hn1, hn2, hn3, HNn⟩ := hrel
                    by_cases hn : n < s.size
                    · have hnz : (n : Int) < (s.size : Int) := by omega
                      have hn0 : n - 1 < s.size := by omega
                      have cS : w1.cell? ⟨g, n, none⟩ = some (.int .u8 (s[n].toNat : Int)) := by have := CS.out n hn; rwa [Nat.zero_add] at this
                      have cS1 : w1.cell? ⟨g, n - 1, none⟩ = some (.int .u8 (s[n - 1].toNat : Int)) := by have := CS.out (n - 1) hn0; rwa [Nat.zero_add] at this
                      have v1 : IntKind.i64.wrap ((n : Int) - 1) = n - 1 := IntWalk.i64_in _ (by omega)
                      have v2 : 0 ≤ (n : Int) - 1 := by omega
                      have v3 : (n : Int) - 1 < s.size := by omega
                      have v4 : ((n : Int) - 1).toNat = n - 1 := by omega
                      have v5 : IntKind.i64.wrap ((n : Int) + 1) = n + 1 := IntWalk.i64_in _ (by omega)
                      by_cases e0 : (s[n].toNat : Int) = (t[L].toNat : Int)
                      · have hb0 : ((s[n].toNat : Int) == (t[L].toNat : Int)) = true := by simpa using e0
                        have HE0 : Hid (s.get! n = t.get! L) := occ_byte hn hLt' e0
                        clear e0
                        by_cases e1 : (s[n - 1].toNat : Int) = (t[L - 1].toNat : Int)
                        · have hb1 : ((s[n - 1].toNat : Int) == (t[L - 1].toNat : Int)) = true := by simpa using e1
                          have HE1' : Hid (s.get! (n - 1) = t.get! (L - 1)) := occ_byte hn0 hL0 e1
                          clear e1
                          go_wp2
                          clear v1 v2 v3 v4 cS cS1
                          go_loopg [18] L (fun gk jv wx => ∃ m q5 : Nat, jv = .int .i64 m ∧ wx = w1.drewN q5 ∧ 2 ≤ m ∧ m ≤ L + 1 ∧ L + 1 ≤ m + gk ∧ Hid (∀ q, 1 ≤ q → q < m → s.get! (n - q) = t.get! (L - q)))
                          case atStart => exact ⟨2, q4, rfl, rfl, Nat.le_refl _, by omega, by omega, occ_first HE1'.out⟩
                          case round =>
                            obtain ⟨m2, q5, rfl, rfl, hm1', hm2', hmg', HQ'⟩ := hrel
                            by_cases hmL' : m2 ≤ L
                            · have hkm' : n - m2 < s.size := by omega
                              have hLm' : L - m2 < t.size := by omega
                              have cS : w1.cell? ⟨g, n - m2, none⟩ = some (.int .u8 (s[n - m2].toNat : Int)) := by have := CS.out (n - m2) hkm'; rwa [Nat.zero_add] at this
                              have cT : w1.cell? ⟨w.heap.size, L - m2, none⟩ = some (.int .u8 (t[L - m2].toNat : Int)) := by have := CT.out (L - m2) hLm'; rwa [Nat.zero_add] at this
                              have v1 : IntKind.i64.wrap ((n : Int) - m2) = n - m2 := IntWalk.i64_in _ (by omega)
                              have v2 : IntKind.i64.wrap ((L : Int) - m2) = L - m2 := IntWalk.i64_in _ (by omega)
                              have v3 : 0 ≤ (n : Int) - m2 := by omega
                              have v4 : (n : Int) - m2 < s.size := by omega
                              have v5' : ((n : Int) - m2).toNat = n - m2 := by omega
                              have v6 : 0 ≤ (L : Int) - m2 := by omega
                              have v7 : (L : Int) - m2 < 4 := by omega
                              have v8 : ((L : Int) - m2).toNat = L - m2 := by omega
                              have v9 : IntKind.i64.wrap ((m2 : Int) + 1) = m2 + 1 := IntWalk.i64_in _ (by omega)
                              have v10 : (m2 : Int) < (L : Int) + 1 := by omega
                              by_cases heq' : (s[n - m2].toNat : Int) = (t[L - m2].toNat : Int)
                              · have hb' : ((s[n - m2].toNat : Int) != (t[L - m2].toNat : Int)) = false := by simpa using heq'
                                have HE2' : Hid (s.get! (n - m2) = t.get! (L - m2)) := occ_byte hkm' hLm' heq'
                                clear heq'
                                go_wp2
                                go_quiet (fail)
                                rw [World.drewN_drewN]
                                generalize q5 + _ = q6
                                clear cS cT v1 v2 v3 v4 v5' v6 v7 v8
                                go_wp2
                                go_roundg (gk - 1)
                                case measure => omega
                                case rel => exact ⟨m2 + 1, q6, by go_num, rfl, by omega, by omega, by omega, occ_succ HQ'.out HE2'.out⟩
                              · have hb' : ((s[n - m2].toNat : Int) != (t[L - m2].toNat : Int)) = true := by simpa using heq'
                                have HNn' : Hid (∀ j, j + L < n + 1 → ¬ OccB s t j) := noocc_next HL.out HNn.out hmL' (occ_nbyte hkm' hLm' heq') hn1
                                clear heq'
                                go_wp2
                                go_quiet (fail)
                                rw [World.drewN_drewN]
                                generalize q5 + _ = q6
                                clear cS cT v1 v2 v3 v4 v5' v6 v7 v8
                                go_wp2
                                go_roundg (s.size - n)
                                case measure => omega
                                case rel => exact ⟨n + 1, q6, by go_num, rfl, by omega, by omega, by omega, HNn'⟩
                            · obtain rfl : m2 = L + 1 := by omega
                              have v6 : IntKind.i64.wrap ((n : Int) - L) = n - L := IntWalk.i64_in _ (by omega)
                              go_wp2
                              rw [Exit.noGoto_ret]
                              go_wp2
                              rw [off_ret]
                              go_wp2
                              go_ret
                              exact ⟨ret_int (by rw [Hhit.out (n - L) (occ_back hn HL.out hn1 HE0.out HQ'.out) (fun j hj => HNn.out j (by omega))]; omega), belowDrewN HB.out q5⟩
                        · have hb1 : ((s[n - 1].toNat : Int) == (t[L - 1].toNat : Int)) = false := by simpa using e1
                          have HNn' : Hid (∀ j, j + L < n + 1 → ¬ OccB s t j) := noocc_next HL.out HNn.out h1 (occ_nbyte hn0 hL0 e1) hn1
                          clear e1
                          go_wp2
                          go_roundg (s.size - n)
                          case measure => omega
                          case rel => exact ⟨n + 1, q4, by go_num, rfl, by omega, by omega, by omega, HNn'⟩
                      · have hb0 : ((s[n].toNat : Int) == (t[L].toNat : Int)) = false := by simpa using e0
                        have HNn' : Hid (∀ j, j + L < n + 1 → ¬ OccB s t j) := noocc_next HL.out HNn.out (Nat.zero_le _) (occ_nbyte hn hLt' e0) hn1
                        clear e0
                        go_wp2
                        go_roundg (s.size - n)
                        case measure => omega
                        case rel => exact ⟨n + 1, q4, by go_num, rfl, by omega, by omega, by omega, HNn'⟩
                    · have hnz : ¬ (n : Int) < (s.size : Int) := by omega
                      go_wp2
                      rw [off_ret]
                      go_wp2
                      go_ret
                      exact ⟨ret_int (Hmiss.out (fun j ho => HNn.out j (by have := ho.1; have := HL.out; omega) ho)).symm, belowDrewN HB.out q4⟩
                · go_wp2_with fail
                  go_roundg (s.size - k')
                  case measure => omega
                  case rel => exact ⟨k' + 1, f + 1, q3, by go_num, by go_num, rfl, by omega, by omega, by omega, by omega, HN3⟩
              · go_wp2_with fail
                go_roundg (s.size - k')
                case measure => omega
                case rel => exact ⟨k' + 1, f + 1, q3, by go_num, by go_num, rfl, by omega, by omega, by omega, by omega, HN3⟩
          · have hm : m = L + 1 := by omega
            subst hm
            have y5 : IntKind.i64.wrap ((k' : Int) - L) = k' - L := IntWalk.i64_in _ (by omega)
            go_wp2
            rw [hop_ret]
            go_wp2
            rw [hop_ret]
            go_wp2
            go_ret
            exact ⟨ret_int (by rw [Hhit.out (k' - L) (occ_back hk'2 HL.out hk'1 HE'.out HQ.out) (fun j hj => HN'.out j (by omega))]; omega), belowDrewN HB.out q2⟩
    · go_wp2
      rw [hop_ret]
      go_wp2
      go_ret
      exact ⟨ret_int (Hmiss.out (fun j ho => HN.out j (by have := ho.1; omega) ho)).symm, belowDrewN HB.out q⟩
end Go.Proofs.YtpaieadnicmplaaDoor

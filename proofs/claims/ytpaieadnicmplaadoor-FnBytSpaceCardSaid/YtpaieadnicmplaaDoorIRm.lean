/- gostrings.IndexRune: the search for a code point of several bytes. -/
import Derived.Test.YtpaieadnicmplaaDoorIRn
import Derived.WalkMore
set_option linter.unusedVariables false
namespace Go.Proofs.YtpaieadnicmplaaDoor
open Go.RowKit Go.Lib
attribute [local go_sem] off_normal off_exit off_ret off_panic hop_normal hop_exit hop_ret hop_panic

theorem idx_run (s : ByteArray) (i : Int) (n : Nat) (hi : i = n) (hn : n < s.size) (W : World) : (Instr.index 9 (.string s) (.int .i64 i)).run Tryd.prog W = .ok (.int .u8 (s[n]'hn).toNat) W := by
  subst hi
  rw [run_index_string (h := Tryd.underlying9), dif_pos ⟨by omega, by omega⟩]
  simp

theorem occ_back {s t : ByteArray} {k L : Nat} (hk : k < s.size) (hL : t.size = L + 1) (hLk : L ≤ k) (h0 : s.get! k = t.get! L) (h : ∀ q, 1 ≤ q → q < L + 1 → s.get! (k - q) = t.get! (L - q)) : OccB s t (k - L) := by
  refine ⟨by omega, fun j hj => ?_⟩
  rcases Nat.lt_or_ge j L with h1 | h1
  · have := h (L - j) (by omega) (by omega)
    rw [show k - (L - j) = k - L + j by omega, show L - (L - j) = j by omega] at this
    exact this
  · obtain rfl : j = L := by omega
    rw [show k - j + j = k by omega]; exact h0
theorem occ_succ {s t : ByteArray} {k L m : Nat} (h : ∀ q, 1 ≤ q → q < m → s.get! (k - q) = t.get! (L - q)) (he : s.get! (k - m) = t.get! (L - m)) : ∀ q, 1 ≤ q → q < m + 1 → s.get! (k - q) = t.get! (L - q) := fun q h1 h2 => by
  rcases Nat.lt_or_ge q m with h3 | h3
  · exact h q h1 h3
  · obtain rfl : q = m := by omega
    exact he
theorem noocc_next {s t : ByteArray} {k L m : Nat} (hL : t.size = L + 1) (h : ∀ j, j + L < k → ¬ OccB s t j) (hm : m ≤ L) (he : s.get! (k - m) ≠ t.get! (L - m)) (hk : L ≤ k) : ∀ j, j + L < k + 1 → ¬ OccB s t j := fun j hj ho => by
  rcases Nat.lt_or_ge (j + L) k with h1 | h1
  · exact h j h1 ho
  · obtain rfl : k = j + L := by omega
    have := ho.2 (L - m) (by omega)
    rw [show j + (L - m) = j + L - m by omega] at this
    exact he this
theorem occ_first {s t : ByteArray} {k L : Nat} (h : s.get! (k - 1) = t.get! (L - 1)) : ∀ q, 1 ≤ q → q < 2 → s.get! (k - q) = t.get! (L - q) := fun q h1 h2 => by
  obtain rfl : q = 1 := by omega
  exact h
theorem tail_list (s : ByteArray) (k : Nat) : (s.extract k s.size).data.toList = s.data.toList.drop k := by
  rw [extract_data]; exact List.take_of_length_le (by simp [ByteArray.size_data])
theorem tail_none {s : ByteArray} {k : Nat} {c : UInt8} (h : indexByte (s.extract (k + 1) s.size).data.toList c = -1) (p : Nat) (h1 : k < p) (h2 : p < s.size) : s.get! p ≠ c := by
  have := indexByte_none h (p - (k + 1))
  rw [tail_list, List.getElem?_drop, show k + 1 + (p - (k + 1)) = p by omega, get_at s p h2] at this
  exact fun e => this (congrArg some e)
theorem tail_some {s : ByteArray} {k o : Nat} {c : UInt8} (h : indexByte (s.extract (k + 1) s.size).data.toList c = o) : k + 1 + o < s.size ∧ s.get! (k + 1 + o) = c ∧ ∀ p, k < p → p < k + 1 + o → s.get! p ≠ c := by
  obtain ⟨h1, h2⟩ := indexByte_some h
  rw [tail_list, List.getElem?_drop] at h1
  have hl : k + 1 + o < s.size := by have := (List.getElem?_eq_some_iff.1 h1).1; simpa using this
  rw [get_at s _ hl] at h1
  refine ⟨hl, Option.some.inj h1, fun p hp1 hp2 e => ?_⟩
  have := h2 (p - (k + 1)) (by omega)
  rw [tail_list, List.getElem?_drop, show k + 1 + (p - (k + 1)) = p by omega, get_at s p (by omega)] at this
  exact this (congrArg some e)
theorem ibc (l : List UInt8) (c : UInt8) : indexByte l c = -1 ∨ ∃ k : Nat, indexByte l c = k := by
  have hge := indexByte_ge l c
  by_cases h : indexByte l c = -1
  · exact .inl h
  · exact .inr ⟨(indexByte l c).toNat, by omega⟩
theorem byte_back (x : UInt8) : ((x.toNat : Nat) : Int).toNat.toUInt8 = x := by
  apply UInt8.toNat_inj.1
  show ((x.toNat : Nat) : Int).toNat % 256 = x.toNat
  have := x.toNat_lt
  omega
theorem noocc_all {s t : ByteArray} {k L : Nat} (hL : t.size = L + 1) (h : ∀ j, j + L < k → ¬ OccB s t j) (he : s.get! k ≠ t.get! L) (ht : ∀ p, k < p → p < s.size → s.get! p ≠ t.get! L) : ∀ j, ¬ OccB s t j := fun j ho => by
  have hl := ho.2 L (by omega)
  have := ho.1
  rcases Nat.lt_or_ge (j + L) k with h1 | h1
  · exact h j h1 ho
  · rcases Nat.eq_or_lt_of_le h1 with h2 | h2
    · rw [← h2] at hl; exact he hl
    · exact ht (j + L) h2 (by omega) hl
theorem noocc_far {s t : ByteArray} {k L e : Nat} (hL : t.size = L + 1) (h : ∀ j, j + L < k → ¬ OccB s t j) (he : s.get! k ≠ t.get! L) (ht : ∀ p, k < p → p < e → s.get! p ≠ t.get! L) : ∀ j, j + L < e → ¬ OccB s t j := fun j hj ho => by
  have hl := ho.2 L (by omega)
  have := ho.1
  rcases Nat.lt_or_ge (j + L) k with h1 | h1
  · exact h j h1 ho
  · rcases Nat.eq_or_lt_of_le h1 with h2 | h2
    · rw [← h2] at hl; exact he hl
    · exact ht (j + L) h2 hj hl
theorem occ_last {s t : ByteArray} {j L : Nat} (hL : t.size = L + 1) (h : OccB s t j) : s.get! (j + L) = t.get! L := h.2 L (by omega)
theorem occ_some {s t : ByteArray} {j L q : Nat} (hL : t.size = L + 1) (hq : q ≤ L) (h : OccB s t j) : s.get! (j + L - q) = t.get! (L - q) := by
  have := h.2 (L - q) (by omega)
  rw [show j + (L - q) = j + L - q by omega] at this
  exact this

set_option maxRecDepth 100000 in
set_option maxHeartbeats 2000000 in
theorem gIndexRune_main (s t : ByteArray) (r : Int) (w : World) (hs : s.size < 4294967281) (he : Utf8.encode r = t) (hv : (0 ≤ r ∧ r < 55296) ∨ (57344 ≤ r ∧ r ≤ 1114111)) (h128 : 128 ≤ r) (hf : (r == 65533) = false) (L : Nat) (hL : t.size = L + 1) (h1 : 1 ≤ L) (h3 : L ≤ 3) (Hhit : Hid (∀ k, OccB s t k → (∀ j, j < k → ¬ OccB s t j) → fP s (isR r) (starts s 0) = k)) (Hmiss : Hid ((∀ j, ¬ OccB s t j) → fP s (isR r) (starts s 0) = -1)) :
    Calls Tryd.prog 23 #[.string s, .int .i32 r] w fun e w' => e = .returned (.int .i64 (fP s (isR r) (starts s 0))) ∧ Below w.heap.size w w' := by
  have hd : decide (r < 128) = false := decide_eq_false (by omega)
  go_enter Tryd.func23, Tryd.ntmps23
  go_wp2_with (go_at_call 38; refine (ValidRune_yes r _ hv).mono ?_; rintro e w' ⟨rfl, rfl⟩)
  refine wp_scope_hop 1 [] (by kernel_rfl) (fun l' h => by cases h) ?_
  intro rest1 hf1
  have HF1 := Lib.hid hf1
  clear hf1
  go_wp2
  go_loopg [9, 10] (s.size + 1) (fun g iv fv wx => ∃ (k f : Nat), iv = .int .i64 k ∧ fv = .int .i64 f ∧ L ≤ k ∧ f ≤ k ∧ k ≤ s.size + L ∧ s.size + 1 ≤ k + g ∧ Hid (Below w.heap.size w wx) ∧ Hid (∀ j, j + L < k → ¬ OccB s t j))
  case atStart => exact ⟨L, 0, rfl, rfl, Nat.le_refl _, Nat.zero_le _, by omega, by omega, Below.refl _ _, fun j h => by omega⟩
  case round =>
    obtain ⟨k, f, rfl, rfl, hLk, hfk, hks, hg, HB, HN⟩ := hrel
    have hL1 : t.size ≤ L + 1 := by omega
    have hL2 : L + 1 ≤ t.size := by omega
    have HL := Lib.hid hL
    clear hL
    by_cases hk : k < s.size
    · go_wp2
      refine wp_scope_hop 0 [1] (by kernel_rfl) (fun l' h => by cases List.mem_singleton.1 h; kernel_rfl) ?_
      intro rest0 hf0
      have HF0 := Lib.hid hf0
      clear hf0
      have hLt : L < t.size := by omega
      by_cases heq : (s[k].toNat : Int) = (t[L].toNat : Int)
      case' pos =>
        have hb : ((s[k].toNat : Int) != (t[L].toNat : Int)) = false := by simpa using heq
        have HE : Hid (s.get! k = t.get! L) := occ_byte hk hLt heq
        clear heq
        go_wp2
        go_quiet (fail)
        generalize hW1 : World.drewN wr _ = W1
        have HB1 : Hid (Below w.heap.size w W1) := hW1 ▸ below_drewN HB.out _
        clear hW1
        go_wp2
        obtain ⟨k', hk'1, hk'2, hk'3, hk'4, HN', HE', hkk⟩ : ∃ k' : Nat, L ≤ k' ∧ k' < s.size ∧ f ≤ k' ∧ s.size + 1 ≤ k' + gk ∧ Hid (∀ j, j + L < k' → ¬ OccB s t j) ∧ Hid (s.get! k' = t.get! L) ∧ k' = k := ⟨k, hLk, hk, hfk, hg, HN, HE, rfl⟩
        subst hkk
      case' neg =>
        have hb : ((s[k].toNat : Int) != (t[L].toNat : Int)) = true := by simpa using heq
        have HE : Hid (s.get! k ≠ t.get! L) := occ_nbyte hk hLt heq
        clear heq
        go_wp2
        go_quiet (fail)
        generalize hW1 : World.drewN wr _ = W1
        have HB0 : Hid (Below w.heap.size w W1) := hW1 ▸ below_drewN HB.out _
        clear hW1
        have cI : ∀ W, Calls Tryd.prog 42 #[.string (s.extract (k + 1) s.size), .int .u8 (t[L].toNat : Int)] W fun e w' => e = .returned (.int .i64 (Lib.indexByte (s.extract (k + 1) s.size).data.toList t[L])) ∧ w' = W := fun W => by
          have := gIndexByte (s.extract (k + 1) s.size) (t[L].toNat : Int) W (by omega) (by have := (t[L]).toNat_lt; omega) (by rw [ByteArray.size_extract]; omega)
          rw [byte_back] at this
          exact this.mono fun _ _ ⟨he, hw⟩ => ⟨he, hw.symm⟩
        have hlast : t[L] = t.get! L := (get_lt t L hLt).symm
        have w1 : IntKind.i64.wrap ((k : Int) + 1) = k + 1 := IntWalk.i64_in _ (by omega)
        have w3 : 0 ≤ (k : Int) + 1 := by omega
        have w4 : (k : Int) + 1 ≤ s.size := by omega
        have w5 : ((k : Int) + 1).toNat = k + 1 := by omega
        rcases ibc (s.extract (k + 1) s.size).data.toList t[L] with hm | ⟨o, ho⟩
        case' inl =>
          have HA : Hid (∀ j, ¬ OccB s t j) := noocc_all HL.out HN.out HE.out (by rw [hlast] at hm; exact tail_none hm)
          rw [hm] at cI
          have CI := Lib.hid cI
          clear hm hlast cI
          go_wp2
          go_quiet ((go_at_call 42; exact Calls.quiet_of_same (CI.out _)))
          generalize hW2 : World.drewN W1 _ = W2
          have HB1 : Hid (Below w.heap.size w W2) := hW2 ▸ below_drewN HB0.out _
          clear hW2 w1 w3 w4 w5 CI
          go_wp2
          rw [hop_ret]
          go_wp2
          rw [hop_ret]
          go_wp2
          go_ret
          exact ⟨ret_int (Hmiss.out HA.out).symm, HB1.out⟩
        case' inr =>
          obtain ⟨ht1, ht2, ht3⟩ := tail_some (by rw [hlast] at ho; exact ho)
          have HA : Hid (∀ j, j + L < k + 1 + o → ¬ OccB s t j) := noocc_far HL.out HN.out HE.out ht3
          have HE1 : Hid (s.get! (k + 1 + o) = t.get! L) := ht2
          rw [ho] at cI
          have CI := Lib.hid cI
          clear ho hlast ht2 ht3 cI
          go_wp2
          go_quiet ((go_at_call 42; exact Calls.quiet_of_same (CI.out _)))
          generalize hW2 : World.drewN W1 _ = W2
          have HB1 : Hid (Below w.heap.size w W2) := hW2 ▸ below_drewN HB0.out _
          clear hW2 w1 w3 w4 w5 CI
          go_wp2
          rw [show ((k : Int) + ((o : Int) + 1)) = ((k + 1 + o : Nat) : Int) by omega]
          obtain ⟨k', hk'1, hk'2, hk'3, hk'4, HN', HE', hkk⟩ : ∃ k' : Nat, L ≤ k' ∧ k' < s.size ∧ f ≤ k' ∧ s.size + 1 ≤ k' + gk ∧ Hid (∀ j, j + L < k' → ¬ OccB s t j) ∧ Hid (s.get! k' = t.get! L) ∧ k + 1 + o = k' := ⟨k + 1 + o, by omega, ht1, by omega, by omega, HA, HE1, rfl⟩
          rw [hkk]
          clear hkk
      all_goals
        go_loopg [12] L (fun g jv wx => ∃ m : Nat, jv = .int .i64 m ∧ 1 ≤ m ∧ m ≤ L + 1 ∧ L + 1 ≤ m + g ∧ Hid (Below w.heap.size w wx) ∧ Hid (∀ q, 1 ≤ q → q < m → s.get! (k' - q) = t.get! (L - q)))
        case atStart => exact ⟨1, rfl, Nat.le_refl _, by omega, by omega, HB1, fun q h1 h2 => by omega⟩
        case round =>
          obtain ⟨m, rfl, hm1, hm2, hmg, HB2, HQ⟩ := hrel
          by_cases hmL : m ≤ L
          · have hkm : k' - m < s.size := by omega
            have hLm : L - m < t.size := by omega
            by_cases heq : (s[k' - m].toNat : Int) = (t[L - m].toNat : Int)
            · have hb : ((s[k' - m].toNat : Int) != (t[L - m].toNat : Int)) = false := by simpa using heq
              have HE2 : Hid (s.get! (k' - m) = t.get! (L - m)) := occ_byte hkm hLm heq
              have w1 : IntKind.i64.wrap ((k' : Int) - m) = k' - m := IntWalk.i64_in _ (by omega)
              have w2 : IntKind.i64.wrap ((L : Int) - m) = L - m := IntWalk.i64_in _ (by omega)
              have w7 := idx_run s ((k' : Int) - m) (k' - m) (by omega) hkm
              have w8 := idx_run t ((L : Int) - m) (L - m) (by omega) hLm
              clear heq
              go_wp2
              go_quiet (fail)
              generalize hW3 : World.drewN wr _ = W3
              have HB3 : Hid (Below w.heap.size w W3) := hW3 ▸ below_drewN HB2.out _
              clear hW3 w1 w2 w7 w8
              go_wp2
              go_roundg (gk - 1)
              case measure => omega
              case rel => exact ⟨m + 1, by go_num, by omega, by omega, by omega, HB3, occ_succ HQ.out HE2.out⟩
            · have hb : ((s[k' - m].toNat : Int) != (t[L - m].toNat : Int)) = true := by simpa using heq
              have HE2 : Hid (s.get! (k' - m) ≠ t.get! (L - m)) := occ_nbyte hkm hLm heq
              have w1 : IntKind.i64.wrap ((k' : Int) - m) = k' - m := IntWalk.i64_in _ (by omega)
              have w2 : IntKind.i64.wrap ((L : Int) - m) = L - m := IntWalk.i64_in _ (by omega)
              have w7 := idx_run s ((k' : Int) - m) (k' - m) (by omega) hkm
              have w8 := idx_run t ((L : Int) - m) (L - m) (by omega) hLm
              clear heq
              go_wp2
              go_quiet (fail)
              generalize hW3 : World.drewN wr _ = W3
              have HB3 : Hid (Below w.heap.size w W3) := hW3 ▸ below_drewN HB2.out _
              clear hW3 w1 w2 w7 w8
              have HN3 : Hid (∀ j, j + L < k' + 1 → ¬ OccB s t j) := noocc_next HL.out HN'.out hmL HE2.out hk'1
              go_wp2
              refine wp_goto ?_
              simp only [inBlock_goto, then_goto]
              rw [hop_goto]
              cases HF0.out
              clear HF0
              go_wp2
              case' _ =>
                refine wp_goto ?_
                rw [off_goto]
                refine ⟨by simp, ?_⟩
                simp only [inBlock_goto, then_goto]
                rw [hop_goto]
                cases HF1.out
                clear HF1
                have hL0 : L - 1 < t.size := by omega
                have w8 := idx_run t ((L : Int) - 1) (L - 1) (by omega) hL0
                have hLt' : L < t.size := by omega
                go_wp2
                go_step3
                go_wp2
                go_step3
                go_wp2
                clear w8
                go_loopg [9] (s.size + 1) (fun g iv wx => ∃ n : Nat, iv = .int .i64 n ∧ L ≤ n ∧ n ≤ s.size ∧ s.size + 1 ≤ n + g ∧ Hid (Below w.heap.size w wx) ∧ Hid (∀ j, j + L < n → ¬ OccB s t j))
                case atStart => exact ⟨k' + 1, by go_num, by omega, by omega, by omega, HB3, HN3⟩
                case round =>
                  obtain ⟨n, rfl, hn1, hn2, hn3, HBn, HNn⟩ := hrel
                  by_cases hn : n < s.size
                  · have hn0 : n - 1 < s.size := by omega
                    have w9 := idx_run s ((n : Int) - 1) (n - 1) (by omega) hn0
                    by_cases e0 : (s[n].toNat : Int) = (t[L].toNat : Int)
                    · have hb0 : ((s[n].toNat : Int) == (t[L].toNat : Int)) = true := by simpa using e0
                      have HE0 : Hid (s.get! n = t.get! L) := occ_byte hn hLt' e0
                      clear e0
                      by_cases e1 : (s[n - 1].toNat : Int) = (t[L - 1].toNat : Int)
                      · have hb1 : ((s[n - 1].toNat : Int) == (t[L - 1].toNat : Int)) = true := by simpa using e1
                        have HE1 : Hid (s.get! (n - 1) = t.get! (L - 1)) := occ_byte hn0 hL0 e1
                        clear e1
                        go_wp2
                        clear w9
                        go_loopg [16] L (fun g jv wx => ∃ m : Nat, jv = .int .i64 m ∧ 2 ≤ m ∧ m ≤ L + 1 ∧ L + 1 ≤ m + g ∧ Hid (Below w.heap.size w wx) ∧ Hid (∀ q, 1 ≤ q → q < m → s.get! (n - q) = t.get! (L - q)))
                        case atStart => exact ⟨2, rfl, Nat.le_refl _, by omega, by omega, HBn, occ_first HE1.out⟩
                        case round =>
                          obtain ⟨m2, rfl, hm1', hm2', hmg', HB2', HQ'⟩ := hrel
                          by_cases hmL' : m2 ≤ L
                          · have hkm' : n - m2 < s.size := by omega
                            have hLm' : L - m2 < t.size := by omega
                            have w1 : IntKind.i64.wrap ((n : Int) - m2) = n - m2 := IntWalk.i64_in _ (by omega)
                            have w2 : IntKind.i64.wrap ((L : Int) - m2) = L - m2 := IntWalk.i64_in _ (by omega)
                            have w7 := idx_run s ((n : Int) - m2) (n - m2) (by omega) hkm'
                            have w8 := idx_run t ((L : Int) - m2) (L - m2) (by omega) hLm'
                            by_cases heq' : (s[n - m2].toNat : Int) = (t[L - m2].toNat : Int)
                            · have hb' : ((s[n - m2].toNat : Int) != (t[L - m2].toNat : Int)) = false := by simpa using heq'
                              have HE2' : Hid (s.get! (n - m2) = t.get! (L - m2)) := occ_byte hkm' hLm' heq'
                              clear heq'
                              go_wp2
                              go_quiet (fail)
                              generalize hW4 : World.drewN wr _ = W4
                              have HB4 : Hid (Below w.heap.size w W4) := hW4 ▸ below_drewN HB2'.out _
                              clear hW4 w1 w2 w7 w8
                              go_wp2
                              go_roundg (gk - 1)
                              case measure => omega
                              case rel => exact ⟨m2 + 1, by go_num, by omega, by omega, by omega, HB4, occ_succ HQ'.out HE2'.out⟩
                            · have hb' : ((s[n - m2].toNat : Int) != (t[L - m2].toNat : Int)) = true := by simpa using heq'
                              have HNn' : Hid (∀ j, j + L < n + 1 → ¬ OccB s t j) := noocc_next HL.out HNn.out hmL' (occ_nbyte hkm' hLm' heq') hn1
                              clear heq'
                              go_wp2
                              go_quiet (fail)
                              generalize hW4 : World.drewN wr _ = W4
                              have HB4 : Hid (Below w.heap.size w W4) := hW4 ▸ below_drewN HB2'.out _
                              clear hW4 w1 w2 w7 w8
                              go_wp2
                              go_roundg (s.size - n)
                              case measure => omega
                              case rel => exact ⟨n + 1, by go_num, by omega, by omega, by omega, HB4, HNn'⟩
                          · obtain rfl : m2 = L + 1 := by omega
                            go_wp2
                            rw [Exit.noGoto_ret]
                            go_wp2
                            rw [off_ret]
                            go_wp2
                            go_ret
                            exact ⟨ret_int (by rw [Hhit.out (n - L) (occ_back hn HL.out hn1 HE0.out HQ'.out) (fun j hj => HNn.out j (by omega))]; omega), HB2'.out⟩
                      · have hb1 : ((s[n - 1].toNat : Int) == (t[L - 1].toNat : Int)) = false := by simpa using e1
                        have HNn' : Hid (∀ j, j + L < n + 1 → ¬ OccB s t j) := noocc_next HL.out HNn.out h1 (occ_nbyte hn0 hL0 e1) hn1
                        clear e1
                        go_wp2
                        go_roundg (s.size - n)
                        case measure => omega
                        case rel => exact ⟨n + 1, by go_num, by omega, by omega, by omega, HBn, HNn'⟩
                    · have hb0 : ((s[n].toNat : Int) == (t[L].toNat : Int)) = false := by simpa using e0
                      have HNn' : Hid (∀ j, j + L < n + 1 → ¬ OccB s t j) := noocc_next HL.out HNn.out (Nat.zero_le _) (occ_nbyte hn hLt' e0) hn1
                      clear e0
                      go_wp2
                      go_roundg (s.size - n)
                      case measure => omega
                      case rel => exact ⟨n + 1, by go_num, by omega, by omega, by omega, HBn, HNn'⟩
                  · go_wp2
                    rw [Exit.noGoto_normal]
                    go_wp2
                    rw [off_ret]
                    go_wp2
                    go_ret
                    exact ⟨ret_int (Hmiss.out (fun j ho => HNn.out j (by have := ho.1; have := HL.out; omega) ho)).symm, HBn.out⟩
              all_goals
                try (rw [off_normal]; go_wp2)
                go_roundg (s.size - k')
                case measure => omega
                case rel => exact ⟨k' + 1, f + 1, by go_num, by go_num, by omega, by omega, by omega, by omega, HB3, HN3⟩
          · have hm : m = L + 1 := by omega
            subst hm
            go_wp2
            rw [hop_ret]
            go_wp2
            rw [hop_ret]
            go_wp2
            go_ret
            exact ⟨ret_int (by rw [Hhit.out (k' - L) (occ_back hk'2 HL.out hk'1 HE'.out HQ.out) (fun j hj => HN'.out j (by omega))]; omega), HB2.out⟩
    · go_wp2
      rw [hop_ret]
      go_wp2
      go_ret
      exact ⟨ret_int (Hmiss.out (fun j ho => HN.out j (by have := ho.1; omega) ho)).symm, HB.out⟩
end Go.Proofs.YtpaieadnicmplaaDoor

/- (*Replacer).build: a single text, a generic one, bytes by bytes (printed by mkBld.py). -/
import Derived.Test.YtnigbgablginnaaBldD
import Derived.Laws.IdiomCopy
set_option linter.unusedVariables false
namespace Go.Proofs.Ytnigbgablginnaa
open Go.RowKit Go.Lib

theorem first_bad {qs : List BB} (h : ¬ oldOne qs) : ∃ (k : Nat) (q : BB), qs[k]? = some q ∧ q.1.size ≠ 1 ∧ ∀ (j : Nat) (r : BB), j < k → qs[j]? = some r → r.1.size = 1 := by
  induction qs with
  | nil => exact absurd (fun q hq => by cases hq) h
  | cons a l ih =>
    by_cases ha : a.1.size = 1
    · obtain ⟨k, q, h1, h2, h3⟩ := ih (fun e => h (fun q hq => by
        rcases List.mem_cons.1 hq with rfl | hq
        · exact ha
        · exact e q hq))
      refine ⟨k + 1, q, h1, h2, fun j r hj hr => ?_⟩
      cases j with
      | zero => have : some a = some r := hr; cases this; exact ha
      | succ j => exact h3 j r (by omega) hr
    · exact ⟨0, a, rfl, ha, fun j r hj => absurd hj (Nat.not_lt_zero _)⟩
theorem size_one {s : ByteArray} (h : s.size = 1) : s.data.toList = [bt s 0] := by
  rw [key_cons s (by omega)]
  congr 1
  apply List.eq_nil_of_length_eq_zero
  rw [← Lib.size_eq, ByteArray.size_extract]; omega
def NewK (qs : List BB) (k : Nat) : Prop := ∀ j q, j < k → qs[j]? = some q → q.2.size = 1
theorem NewK.succ {qs : List BB} {k : Nat} {q : BB} (h : NewK qs k) (hq : qs[k]? = some q) (h2 : q.2.size = 1) : NewK qs (k + 1) := fun j r hj hr => by
  rcases Nat.lt_or_eq_of_le (Nat.le_of_lt_succ hj) with h' | rfl
  · exact h j r h' hr
  · obtain rfl := Option.some.inj (hq.symm.trans hr); exact h2

set_option maxRecDepth 100000 in
set_option maxHeartbeats 2000000 in
theorem build_single (Rr : Nat) (q : BB) (vv : Value) (w : World) (hc : w.cell? ⟨Rr, 1, none⟩ = some vv) (hv : StrsAt w vv [q.1, q.2]) (hp : 1 < q.1.size) (hp2 : q.1.size ≤ 2147483647) :
    Calls Try.prog 69 #[at0 Rr] w (BuiltR [q] 2 w) := by
  obtain ⟨A, c, rfl⟩ := hv.shape
  obtain ⟨_, hcc, hcells⟩ := hv.cells
  obtain ⟨G, o, rfl, hG, c0⟩ := hcells 0 q.1 rfl
  obtain ⟨G', o', eG, _, c1⟩ := hcells 1 q.2 rfl
  obtain ⟨rfl, rfl⟩ : G = G' ∧ o = o' := by cases eG; exact ⟨rfl, rfl⟩
  clear eG hcells hv
  rw [show [q.1, q.2].length = 2 from rfl] at hc hcc
  rw [Nat.add_zero] at c0
  have hg2 : decide (1 < (q.1.size : Int)) = true := decide_eq_true (by omega)
  have hg3 : decide (1 < q.1.size) = true := decide_eq_true hp
  have HM := Lib.hid (fun W => makeSingle q.1 q.2 W hp2 (by omega))
  go_enter Try.func69, Try.ntmps69
  go_wp2_with fail
  go_region_with (go_at_call 50; (with_reducible refine (HM.out _).mono ?_); rintro e w1 ⟨R, F, G1, S, rfl, hA, hB, hBR⟩; have HA := Lib.hid hA; have HB := Lib.hid hB; have HBR := Lib.hid hBR; clear hA hB hBR)
  all_goals
    go_wp2_with fail
    go_ret
    exact ⟨_, rfl, (.single R F G1 q.1 q.2 S rfl hp HA.out HBR.out), ((Below.refl w.heap.size w).drew).trans HB.out⟩

set_option maxRecDepth 100000 in
set_option maxHeartbeats 4000000 in
theorem build_gen (Rr : Nat) (xs : List ByteArray) (qs : List BB) (v : Value) (w : World) (hc : w.cell? ⟨Rr, 1, none⟩ = some v) (hv : StrsAt w v xs) (hp : PairsOf xs qs) (hx : xs.length ≤ 2147483647) (hs : ∀ x ∈ xs, x.size ≤ 2147483647) (hns : ¬ isSingle qs) (ho : ¬ oldOne qs) :
    Calls Try.prog 69 #[at0 Rr] w (BuiltR qs xs.length w) := by
  obtain ⟨A, c, rfl⟩ := hv.shape
  obtain ⟨_, hcc, hcells⟩ := hv.cells
  have hlen := hp.1
  have HP := Lib.hid hp
  have HC := Lib.hid hcells
  have HS := Lib.hid hs
  have HV := Lib.hid hv
  have HNS := Lib.hid hns
  generalize hn : xs.length = n at hx hcc hlen hc HV
  have HNx := Lib.hid hn
  have HL := Lib.hid hlen
  have hxx : xs.length ≤ 2147483647 := by rw [hn]; exact hx
  have HXX := Lib.hid hxx
  clear hp hcells hs hn hv hns hxx
  obtain ⟨k0, q1, hk0⟩ := first_bad ho
  have HK := Lib.hid hk0
  have HO := Lib.hid ho
  clear hk0 ho
  by_cases h2 : n = 2
  · have hq1 : ∃ q, qs[0]? = some q := ⟨_, List.getElem?_eq_getElem (by omega)⟩
    obtain ⟨q0, hq0⟩ := hq1
    have hx0 := (HP.out.2 0 q0 hq0).1
    obtain ⟨G0, o0, rfl, hG0, cc0⟩ := HC.out 0 q0.1 hx0
    rw [Nat.add_zero] at cc0
    have hnq : ¬ 1 < q0.1.size := fun e => HNS.out ⟨q0.1, q0.2, by
      have hl1 : qs.length = 1 := by omega
      match qs, hl1 with
      | [a], _ => have : some a = some q0 := hq0
                  cases this; rfl, e⟩
    have hg1 : ((n : Int) == 2) = true := by rw [beq_iff_eq]; omega
    have hg2 : decide (1 < (q0.1.size : Int)) = false := decide_eq_false (by omega)
    have hg3 : decide (1 < q0.1.size) = false := decide_eq_false hnq
    have hn0 : (0 : Int) < (n : Int) := by omega
    have HC0 := HC
    clear hq0 hx0 hnq h2 hlen
    go_enter Try.func69, Try.ntmps69
    go_wp2_with fail

    go_loop [4, 5] (fun s4 iv => ∃ (i k : Nat) (b : Bool), k ≤ k0 ∧ i + 2 ≤ n ∧ iv = .int .i64 i ∧ s4 = .bool b ∧ Hid (i = 2 * k)) (fun _ iv => n - (RowKit.intOf iv).toNat)
    case atStart => exact ⟨0, 0, true, Nat.zero_le _, by have := HL.out; have := (List.getElem?_eq_some_iff.1 HK.out.1).1; omega, rfl, rfl, Lib.hid rfl⟩
    case round =>
      obtain ⟨i, k, b, hk, hin, rfl, rfl, HI⟩ := hrel
      have hltz : (i : Int) < (n : Int) := by omega
      obtain ⟨q, hq⟩ : ∃ q, qs[k]? = some q := ⟨_, List.getElem?_eq_getElem (by have := HI.out; have := HL.out; omega)⟩
      have hx0 : xs[i]? = some q.1 := by rw [HI.out]; exact (HP.out.2 k q hq).1
      have hx1 : xs[i + 1]? = some q.2 := by rw [HI.out]; exact (HP.out.2 k q hq).2
      obtain ⟨G, o, eA, hGl, c0⟩ := HC.out i q.1 hx0
      obtain ⟨G', o', eA', hGl', c1⟩ := HC.out (i + 1) q.2 hx1
      have eA2 := eA.symm.trans eA'
      obtain ⟨rfl, rfl⟩ : G = G' ∧ o = o' := by cases eA2; exact ⟨rfl, rfl⟩
      first | subst eA | (cases eA)
      have hz0 := HS.out q.1 (List.mem_of_getElem? hx0)
      have hz1 := HS.out q.2 (List.mem_of_getElem? hx1)
      clear eA' eA2
      have HQ := Lib.hid hq
      clear hq hx0 hx1
      by_cases hkk : k < k0
      · have hb1 : ((q.1.size : Int) != 1) = false := by
          have := HK.out.2.2 k q hkk HQ.out
          rw [this]; rfl
        have hi1 : (i : Int) + 1 < (n : Int) := by omega
        have hi4 : i + 4 ≤ n := by have := HI.out; have := HL.out; have := (List.getElem?_eq_some_iff.1 HK.out.1).1; omega
        by_cases hq2 : q.2.size = 1
        · have hb2 : ((q.2.size : Int) != 1) = false := by rw [hq2]; rfl
          clear hq2
          go_wp2_with fail
          go_round
          case rel => exact ⟨i + 2, k + 1, b, hkk, hi4, by go_num, rfl, Lib.hid (by have := HI.out; omega)⟩
          case measure => simp [RowKit.intOf]; omega
        · have hb2 : ((q.2.size : Int) != 1) = true := by rw [bne_iff_ne]; omega
          clear hq2
          go_wp2_with fail
          go_round
          case rel => exact ⟨i + 2, k + 1, false, hkk, hi4, by go_num, rfl, Lib.hid (by have := HI.out; omega)⟩
          case measure => simp [RowKit.intOf]; omega
      · obtain rfl : k = k0 := by omega
        have hb1 : ((q.1.size : Int) != 1) = true := by
          have h1 := HK.out.2.1
          obtain rfl := Option.some.inj (HK.out.1.symm.trans HQ.out)
          rw [bne_iff_ne]; omega
        go_wp2_with fail
        refine (makeGeneric xs qs _ w HP.out HV.out HXX.out (fun x hx => by have := HS.out x hx; omega)).mono ?_
        rintro e w1 ⟨g, m, N, T, rfl, hG, hB⟩
        have HG := Lib.hid hG
        have HB := Lib.hid hB
        clear hG hB
        go_wp2_with fail
        go_ret
        exact ⟨_, rfl, .gen g m N T HNS.out HO.out (by rw [← HNx.out]; exact HG.out), HB.out⟩
  · have hg1 : ((n : Int) == 2) = false := beq_eq_false_iff_ne.2 (by omega)
    clear h2 hlen
    go_enter Try.func69, Try.ntmps69
    go_wp2_with fail

    go_loop [4, 5] (fun s4 iv => ∃ (i k : Nat) (b : Bool), k ≤ k0 ∧ i + 2 ≤ n ∧ iv = .int .i64 i ∧ s4 = .bool b ∧ Hid (i = 2 * k)) (fun _ iv => n - (RowKit.intOf iv).toNat)
    case atStart => exact ⟨0, 0, true, Nat.zero_le _, by have := HL.out; have := (List.getElem?_eq_some_iff.1 HK.out.1).1; omega, rfl, rfl, Lib.hid rfl⟩
    case round =>
      obtain ⟨i, k, b, hk, hin, rfl, rfl, HI⟩ := hrel
      have hltz : (i : Int) < (n : Int) := by omega
      obtain ⟨q, hq⟩ : ∃ q, qs[k]? = some q := ⟨_, List.getElem?_eq_getElem (by have := HI.out; have := HL.out; omega)⟩
      have hx0 : xs[i]? = some q.1 := by rw [HI.out]; exact (HP.out.2 k q hq).1
      have hx1 : xs[i + 1]? = some q.2 := by rw [HI.out]; exact (HP.out.2 k q hq).2
      obtain ⟨G, o, eA, hGl, c0⟩ := HC.out i q.1 hx0
      obtain ⟨G', o', eA', hGl', c1⟩ := HC.out (i + 1) q.2 hx1
      have eA2 := eA.symm.trans eA'
      obtain ⟨rfl, rfl⟩ : G = G' ∧ o = o' := by cases eA2; exact ⟨rfl, rfl⟩
      first | subst eA | (cases eA)
      have hz0 := HS.out q.1 (List.mem_of_getElem? hx0)
      have hz1 := HS.out q.2 (List.mem_of_getElem? hx1)
      clear eA' eA2
      have HQ := Lib.hid hq
      clear hq hx0 hx1
      by_cases hkk : k < k0
      · have hb1 : ((q.1.size : Int) != 1) = false := by
          have := HK.out.2.2 k q hkk HQ.out
          rw [this]; rfl
        have hi1 : (i : Int) + 1 < (n : Int) := by omega
        have hi4 : i + 4 ≤ n := by have := HI.out; have := HL.out; have := (List.getElem?_eq_some_iff.1 HK.out.1).1; omega
        by_cases hq2 : q.2.size = 1
        · have hb2 : ((q.2.size : Int) != 1) = false := by rw [hq2]; rfl
          clear hq2
          go_wp2_with fail
          go_round
          case rel => exact ⟨i + 2, k + 1, b, hkk, hi4, by go_num, rfl, Lib.hid (by have := HI.out; omega)⟩
          case measure => simp [RowKit.intOf]; omega
        · have hb2 : ((q.2.size : Int) != 1) = true := by rw [bne_iff_ne]; omega
          clear hq2
          go_wp2_with fail
          go_round
          case rel => exact ⟨i + 2, k + 1, false, hkk, hi4, by go_num, rfl, Lib.hid (by have := HI.out; omega)⟩
          case measure => simp [RowKit.intOf]; omega
      · obtain rfl : k = k0 := by omega
        have hb1 : ((q.1.size : Int) != 1) = true := by
          have h1 := HK.out.2.1
          obtain rfl := Option.some.inj (HK.out.1.symm.trans HQ.out)
          rw [bne_iff_ne]; omega
        go_wp2_with fail
        refine (makeGeneric xs qs _ w HP.out HV.out HXX.out (fun x hx => by have := HS.out x hx; omega)).mono ?_
        rintro e w1 ⟨g, m, N, T, rfl, hG, hB⟩
        have HG := Lib.hid hG
        have HB := Lib.hid hB
        clear hG hB
        go_wp2_with fail
        go_ret
        exact ⟨_, rfl, .gen g m N T HNS.out HO.out (by rw [← HNx.out]; exact HG.out), HB.out⟩

theorem there_row {w : World} {b : Nat} {cs : Array Value} {t : TypeId} (hb : w.heap[b]? = some (.cells cs t (0, 0))) (n : Nat) (hn : cs.size = n) : w.there b 0 n := by
  intro j hj
  refine ⟨?_, frozen_of_row w b (0 + j) _ _ hb⟩
  rw [cell_of_row w _ (0 + j) _ _ _ hb, Nat.zero_add, Array.getElem?_eq_getElem (by omega)]
  rfl
theorem below_setC {B b : Nat} {a : World} (hb : B ≤ b) : ∀ (vs : List Value) (o : Nat) (w : World), Below B a w → Below B a (w.setCells b o vs)
  | [], _, _, h => h
  | v :: r, o, w, h => below_setC hb r (o + 1) _ (h.setCell hb v)
theorem zeroT : Try.zeroCells112 = Array.replicate 256 (Value.int .u8 0) := by kernel_rfl
theorem tab_info : (Try.prog.info? 112).map (·.size) = some Try.zeroCells112.size := by kernel_rfl
theorem tab_one : Try.zeroCells112.all (·.oneCell') = true := by kernel_rfl
theorem tab_zero (w : World) : TabAt ((w.alloc (.cells Try.zeroCells112 112)).setCells w.heap.size 0 Try.zeroCells112.toList) w.heap.size (fun _ => 0) := by
  have hb := heap_alloc_new w (.cells Try.zeroCells112 112)
  have hth := there_row hb Try.zeroCells112.toList.length (by simp)
  refine ⟨fun i hi => ?_, fun o => ?_⟩
  · have := World.rangeAt_setCells_same _ _ _ Try.zeroCells112.toList hth i (.int .u8 0) (by rw [zeroT, Array.toList_replicate, List.getElem?_replicate, if_pos hi])
    rwa [Nat.zero_add] at this
  · rw [World.frozen?_setCells]; exact frozen_of_row _ _ o _ _ hb

set_option maxRecDepth 100000 in
set_option maxHeartbeats 4000000 in
theorem build_bytes (Rr : Nat) (xs : List ByteArray) (qs : List BB) (v : Value) (w : World) (hc : w.cell? ⟨Rr, 1, none⟩ = some v) (hv : StrsAt w v xs) (hp : PairsOf xs qs) (hx : xs.length ≤ 2147483647) (hs : ∀ x ∈ xs, x.size ≤ 2147483647) (hns : ¬ isSingle qs) (ho : oldOne qs) (hnw : newOne qs) :
    Calls Try.prog 69 #[at0 Rr] w (BuiltR qs xs.length w) := by
  obtain ⟨A, c, rfl⟩ := hv.shape
  obtain ⟨_, hcc, hcells⟩ := hv.cells
  have hlen := hp.1
  have HP := Lib.hid hp
  have HC := Lib.hid hcells
  have HS := Lib.hid hs
  have HV := Lib.hid hv
  have HNS := Lib.hid hns
  generalize hn : xs.length = n at hx hcc hlen hc HV
  have HNx := Lib.hid hn
  have HL := Lib.hid hlen
  have hxx : xs.length ≤ 2147483647 := by rw [hn]; exact hx
  have HXX := Lib.hid hxx
  clear hp hcells hs hn hv hns hxx
  have HO := Lib.hid ho
  have HNw := Lib.hid hnw
  clear ho hnw
  by_cases h2 : n = 2
  · have hq1 : ∃ q, qs[0]? = some q := ⟨_, List.getElem?_eq_getElem (by omega)⟩
    obtain ⟨q0, hq0⟩ := hq1
    have hx0 := (HP.out.2 0 q0 hq0).1
    obtain ⟨G0, o0, rfl, hG0, cc0⟩ := HC.out 0 q0.1 hx0
    rw [Nat.add_zero] at cc0
    have hnq : ¬ 1 < q0.1.size := fun e => HNS.out ⟨q0.1, q0.2, by
      have hl1 : qs.length = 1 := by omega
      match qs, hl1 with
      | [a], _ => have : some a = some q0 := hq0
                  cases this; rfl, e⟩
    have hg1 : ((n : Int) == 2) = true := by rw [beq_iff_eq]; omega
    have hg2 : decide (1 < (q0.1.size : Int)) = false := decide_eq_false (by omega)
    have hg3 : decide (1 < q0.1.size) = false := decide_eq_false hnq
    have hn0 : (0 : Int) < (n : Int) := by omega
    have HC0 := HC
    clear hq0 hx0 hnq h2 hlen
    go_enter Try.func69, Try.ntmps69
    go_wp2_with fail

    go_loop [4, 5] (fun s4 iv => ∃ (i k : Nat), i ≤ n ∧ iv = .int .i64 i ∧ s4 = .bool true ∧ Hid (i = 2 * k)) (fun _ iv => n - (RowKit.intOf iv).toNat)
    case atStart => exact ⟨0, 0, Nat.zero_le _, rfl, rfl, Lib.hid rfl⟩
    case round =>
      obtain ⟨i, k, hin, rfl, rfl, HI⟩ := hrel
      by_cases hlt : i < n
      · have hltz : (i : Int) < (n : Int) := by omega
        obtain ⟨q, hq⟩ : ∃ q, qs[k]? = some q := ⟨_, List.getElem?_eq_getElem (by have := HI.out; have := HL.out; omega)⟩
        have hx0 : xs[i]? = some q.1 := by rw [HI.out]; exact (HP.out.2 k q hq).1
        have hx1 : xs[i + 1]? = some q.2 := by rw [HI.out]; exact (HP.out.2 k q hq).2
        obtain ⟨G, o, eA, hGl, c0⟩ := HC.out i q.1 hx0
        obtain ⟨G', o', eA', hGl', c1⟩ := HC.out (i + 1) q.2 hx1
        have eA2 := eA.symm.trans eA'
        obtain ⟨rfl, rfl⟩ : G = G' ∧ o = o' := by cases eA2; exact ⟨rfl, rfl⟩
        first | subst eA | (cases eA)
        have hqm := List.mem_of_getElem? hq
        have hb1 : ((q.1.size : Int) != 1) = false := by rw [HO.out q hqm]; rfl
        have hb2 : ((q.2.size : Int) != 1) = false := by rw [HNw.out q hqm]; rfl
        have hi1 : (i : Int) + 1 < (n : Int) := by have := HI.out; have := HL.out; omega
        clear eA' eA2 hq hx0 hx1 hqm
        go_wp2_with fail
        go_round
        case rel => exact ⟨i + 2, k + 1, by omega, by go_num, rfl, Lib.hid (by have := HI.out; omega)⟩
        case measure => simp [RowKit.intOf]; omega
      · obtain rfl : n = i := by omega
        have hltz : ¬ ((n : Int) < (n : Int)) := by omega
        have hth : (w.alloc (.cells Try.zeroCells112 112)).there w.heap.size 0 Try.zeroCells112.size := there_row (heap_alloc_new w _) _ rfl
        have hT0 := tab_zero w
        have hB0 : Below w.heap.size w ((w.alloc (.cells Try.zeroCells112 112)).setCells w.heap.size 0 Try.zeroCells112.toList) := below_setC (Nat.le_refl _) _ _ _ ((Below.refl _ w).alloc (Nat.le_refl _) _)
        have HT0 := Lib.hid hT0
        have HB0 := Lib.hid hB0
        have HTH := Lib.hid hth
        clear hT0 hB0 hth
        go_wp2_with (refine wpList_store_mid rfl _ _ _ rfl w.heap.size 0 Try.zeroCells112 rfl rfl HTH.out tab_info tab_one ?_)
        obtain ⟨W, hW⟩ : ∃ W, W = ((w.alloc (.cells Try.zeroCells112 112)).setCells w.heap.size 0 Try.zeroCells112.toList) := ⟨_, rfl⟩
        obtain ⟨B, hBB⟩ : ∃ B, B = w.heap.size := ⟨_, rfl⟩
        rw [← hW] at HT0 HB0 ⊢
        rw [← hBB] at HT0 ⊢
        have HBB := Lib.hid hBB
        clear hW hBB
        go_loopw [61] (fun iv wr => ∃ j : Nat, j ≤ 256 ∧ iv = .int .i64 j ∧ Hid (TabAt wr B (fun i => if i < j then i else 0)) ∧ Hid (Below w.heap.size w wr)) (fun iv _ => 256 - (RowKit.intOf iv).toNat)
        case atStart => exact ⟨0, Nat.zero_le _, rfl, Lib.hid (HT0.out.congr (fun i hi => by rw [if_neg (Nat.not_lt_zero _)])), HB0⟩
        case round =>
          clear HT0 HB0
          obtain ⟨j, hj, rfl, HT, HB⟩ := hrel
          by_cases hjl : j < 256
          · have cj := HT.out.c j hjl
            have fj := HT.out.nf j
            have hw8 : IntKind.u8.wrap (j : Int) = (j : Int) := IntWalk.u8_in _ (by omega)
            have hj0 : (0 : Int) ≤ (j : Int) := by omega
            have hj5 : (j : Int) ≤ 255 := by omega
            go_wp2_with fail
            go_roundw
            case rel =>
              refine ⟨j + 1, by omega, by go_num, Lib.hid ((HT.out.set j j hjl).congr (fun i hi => ?_)), Lib.hid (HB.out.setCell (by rw [HBB.out]; exact Nat.le_refl _) _)⟩
              by_cases e : i = j
              · rw [if_pos e, if_pos (by omega), e]
              · rw [if_neg e]
                by_cases h' : i < j
                · rw [if_pos h', if_pos (by omega)]
                · rw [if_neg h', if_neg (by omega)]
            case measure => simp [RowKit.intOf]; omega
          · obtain rfl : j = 256 := by omega
            have HT1 : Hid (∃ R, TabAt wr B R ∧ ∀ c : UInt8, byteTo ((qs.drop qs.length).map tb) c = [UInt8.ofNat (R c.toNat)] ∧ R c.toNat < 256) := Lib.hid ⟨fun i => i, HT.out.congr (fun i hi => if_pos hi), fun c => ⟨by rw [List.drop_length, List.map_nil, byteTo_nil, UInt8.ofNat_toNat], c.toNat_lt⟩⟩
            clear HT
            go_wp2_with fail
            go_loopw [8] (fun iv wr => ∃ (i k : Nat), i ≤ n ∧ iv = .int .i64 ((i : Int) - 2) ∧ Hid (i = 2 * k) ∧ Hid (∃ R, TabAt wr B R ∧ ∀ c : UInt8, byteTo ((qs.drop k).map tb) c = [UInt8.ofNat (R c.toNat)] ∧ R c.toNat < 256) ∧ Hid (Below w.heap.size w wr)) (fun iv _ => (RowKit.intOf iv + 2).toNat)
            case atStart => exact ⟨n, qs.length, Nat.le_refl _, rfl, HL, HT1, HB⟩
            case round =>
              clear HT1 HB
              obtain ⟨i, k, hin, rfl, HI, HT, HB⟩ := hrel
              cases k with
              | zero =>
                obtain rfl : i = 0 := HI.out
                rw [show (((0 : Nat) : Int) - 2) = -2 from rfl]
                go_wp2_with fail
                go_ret
                obtain ⟨R, hT, hR⟩ := HT.out
                exact ⟨_, rfl, .bytes B R HNS.out HO.out HNw.out hT (by simpa using hR) (by rw [HBB.out]; exact Nat.le_refl _), HB.out⟩
              | succ k =>
                obtain ⟨j, rfl⟩ : ∃ j, i = j + 2 := ⟨i - 2, by have := HI.out; omega⟩
                rw [show (((j + 2 : Nat) : Int) - 2) = (j : Int) by omega]
                obtain ⟨q, hq⟩ : ∃ q, qs[k]? = some q := ⟨_, List.getElem?_eq_getElem (by have := HI.out; have := HL.out; omega)⟩
                have hx0 : xs[j]? = some q.1 := by rw [show j = 2 * k by have := HI.out; omega]; exact (HP.out.2 k q hq).1
                have hx1 : xs[j + 1]? = some q.2 := by rw [show j = 2 * k by have := HI.out; omega]; exact (HP.out.2 k q hq).2
                obtain ⟨G, o, eA, hGl, d0⟩ := HC.out j q.1 hx0
                obtain ⟨G', o', eA', hGl', d1⟩ := HC.out (j + 1) q.2 hx1
                have eA2 := eA.symm.trans eA'
                obtain ⟨rfl, rfl⟩ : G = G' ∧ o = o' := by cases eA2; exact ⟨rfl, rfl⟩
                first | subst eA | (cases eA)
                have c0 := Eq.trans (HB.out.cell (p := ⟨_, _, none⟩) hGl) d0
                have c1 := Eq.trans (HB.out.cell (p := ⟨_, _, none⟩) hGl) d1
                have hqm := List.mem_of_getElem? hq
                have s1 := size_one (HO.out q hqm)
                have s2 := size_one (HNw.out q hqm)
                have i1 : 0 < q.1.size := by rw [HO.out q hqm]; decide
                have i2 : 0 < q.2.size := by rw [HNw.out q hqm]; decide
                have w5 := idx_run q.1 0 0 rfl i1
                have w6 := idx_run q.2 0 0 rfl i2
                rw [← bt_at q.1 0 i1] at w5
                rw [← bt_at q.2 0 i2] at w6
                generalize bt q.1 0 = x at w5 s1
                generalize bt q.2 0 = y at w6 s2
                have x256 := x.toNat_lt
                have y256 := y.toNat_lt
                obtain ⟨R, hT, hR⟩ := HT.out
                have cx := hT.c x.toNat x256
                have fx := hT.nf x.toNat
                have HTR := Lib.hid hT
                have HRR := Lib.hid hR
                have HS1 := Lib.hid s1
                have HS2 := Lib.hid s2
                have HQ := Lib.hid hq
                have hjn : (j : Int) < (n : Int) := by omega
                have hjn1 : (j : Int) + 1 < (n : Int) := by have := HI.out; have := HL.out; omega
                have hj0 : (0 : Int) ≤ (j : Int) := by omega
                clear eA' eA2 hq hx0 hx1 hqm d0 d1 hT hR HT s1 s2
                go_wp2_with fail
                go_roundw
                case rel =>
                  refine ⟨j, k, by omega, rfl, Lib.hid (by have := HI.out; omega), Lib.hid ⟨_, HTR.out.set x.toNat y.toNat x256, fun c => ?_⟩, Lib.hid (HB.out.setCell (by rw [HBB.out]; exact Nat.le_refl _) _)⟩
                  have hd : qs.drop k = q :: qs.drop (k + 1) := by
                    obtain ⟨hk, e⟩ := List.getElem?_eq_some_iff.1 HQ.out
                    rw [List.drop_eq_getElem_cons hk, e]
                  rw [hd, List.map_cons, byteTo_cons]
                  show (if (q.1.data.toList == [c]) = true then q.2.data.toList else _) = _ ∧ _
                  rw [HS1.out, HS2.out]
                  by_cases e : c = x
                  · subst e
                    rw [if_pos (by simp), if_pos rfl, UInt8.ofNat_toNat]
                    exact ⟨rfl, y256⟩
                  · have e1 : ¬ c.toNat = x.toNat := fun h => e (UInt8.toNat_inj.1 h)
                    rw [if_neg (by simpa using fun h => e h.symm), if_neg e1]
                    exact HRR.out c
                case measure => simp [RowKit.intOf]; omega
  · have hg1 : ((n : Int) == 2) = false := beq_eq_false_iff_ne.2 (by omega)
    clear h2 hlen
    go_enter Try.func69, Try.ntmps69
    go_wp2_with fail

    go_loop [4, 5] (fun s4 iv => ∃ (i k : Nat), i ≤ n ∧ iv = .int .i64 i ∧ s4 = .bool true ∧ Hid (i = 2 * k)) (fun _ iv => n - (RowKit.intOf iv).toNat)
    case atStart => exact ⟨0, 0, Nat.zero_le _, rfl, rfl, Lib.hid rfl⟩
    case round =>
      obtain ⟨i, k, hin, rfl, rfl, HI⟩ := hrel
      by_cases hlt : i < n
      · have hltz : (i : Int) < (n : Int) := by omega
        obtain ⟨q, hq⟩ : ∃ q, qs[k]? = some q := ⟨_, List.getElem?_eq_getElem (by have := HI.out; have := HL.out; omega)⟩
        have hx0 : xs[i]? = some q.1 := by rw [HI.out]; exact (HP.out.2 k q hq).1
        have hx1 : xs[i + 1]? = some q.2 := by rw [HI.out]; exact (HP.out.2 k q hq).2
        obtain ⟨G, o, eA, hGl, c0⟩ := HC.out i q.1 hx0
        obtain ⟨G', o', eA', hGl', c1⟩ := HC.out (i + 1) q.2 hx1
        have eA2 := eA.symm.trans eA'
        obtain ⟨rfl, rfl⟩ : G = G' ∧ o = o' := by cases eA2; exact ⟨rfl, rfl⟩
        first | subst eA | (cases eA)
        have hqm := List.mem_of_getElem? hq
        have hb1 : ((q.1.size : Int) != 1) = false := by rw [HO.out q hqm]; rfl
        have hb2 : ((q.2.size : Int) != 1) = false := by rw [HNw.out q hqm]; rfl
        have hi1 : (i : Int) + 1 < (n : Int) := by have := HI.out; have := HL.out; omega
        clear eA' eA2 hq hx0 hx1 hqm
        go_wp2_with fail
        go_round
        case rel => exact ⟨i + 2, k + 1, by omega, by go_num, rfl, Lib.hid (by have := HI.out; omega)⟩
        case measure => simp [RowKit.intOf]; omega
      · obtain rfl : n = i := by omega
        have hltz : ¬ ((n : Int) < (n : Int)) := by omega
        have hth : (w.alloc (.cells Try.zeroCells112 112)).there w.heap.size 0 Try.zeroCells112.size := there_row (heap_alloc_new w _) _ rfl
        have hT0 := tab_zero w
        have hB0 : Below w.heap.size w ((w.alloc (.cells Try.zeroCells112 112)).setCells w.heap.size 0 Try.zeroCells112.toList) := below_setC (Nat.le_refl _) _ _ _ ((Below.refl _ w).alloc (Nat.le_refl _) _)
        have HT0 := Lib.hid hT0
        have HB0 := Lib.hid hB0
        have HTH := Lib.hid hth
        clear hT0 hB0 hth
        go_wp2_with (refine wpList_store_mid rfl _ _ _ rfl w.heap.size 0 Try.zeroCells112 rfl rfl HTH.out tab_info tab_one ?_)
        obtain ⟨W, hW⟩ : ∃ W, W = ((w.alloc (.cells Try.zeroCells112 112)).setCells w.heap.size 0 Try.zeroCells112.toList) := ⟨_, rfl⟩
        obtain ⟨B, hBB⟩ : ∃ B, B = w.heap.size := ⟨_, rfl⟩
        rw [← hW] at HT0 HB0 ⊢
        rw [← hBB] at HT0 ⊢
        have HBB := Lib.hid hBB
        clear hW hBB
        go_loopw [61] (fun iv wr => ∃ j : Nat, j ≤ 256 ∧ iv = .int .i64 j ∧ Hid (TabAt wr B (fun i => if i < j then i else 0)) ∧ Hid (Below w.heap.size w wr)) (fun iv _ => 256 - (RowKit.intOf iv).toNat)
        case atStart => exact ⟨0, Nat.zero_le _, rfl, Lib.hid (HT0.out.congr (fun i hi => by rw [if_neg (Nat.not_lt_zero _)])), HB0⟩
        case round =>
          clear HT0 HB0
          obtain ⟨j, hj, rfl, HT, HB⟩ := hrel
          by_cases hjl : j < 256
          · have cj := HT.out.c j hjl
            have fj := HT.out.nf j
            have hw8 : IntKind.u8.wrap (j : Int) = (j : Int) := IntWalk.u8_in _ (by omega)
            have hj0 : (0 : Int) ≤ (j : Int) := by omega
            have hj5 : (j : Int) ≤ 255 := by omega
            go_wp2_with fail
            go_roundw
            case rel =>
              refine ⟨j + 1, by omega, by go_num, Lib.hid ((HT.out.set j j hjl).congr (fun i hi => ?_)), Lib.hid (HB.out.setCell (by rw [HBB.out]; exact Nat.le_refl _) _)⟩
              by_cases e : i = j
              · rw [if_pos e, if_pos (by omega), e]
              · rw [if_neg e]
                by_cases h' : i < j
                · rw [if_pos h', if_pos (by omega)]
                · rw [if_neg h', if_neg (by omega)]
            case measure => simp [RowKit.intOf]; omega
          · obtain rfl : j = 256 := by omega
            have HT1 : Hid (∃ R, TabAt wr B R ∧ ∀ c : UInt8, byteTo ((qs.drop qs.length).map tb) c = [UInt8.ofNat (R c.toNat)] ∧ R c.toNat < 256) := Lib.hid ⟨fun i => i, HT.out.congr (fun i hi => if_pos hi), fun c => ⟨by rw [List.drop_length, List.map_nil, byteTo_nil, UInt8.ofNat_toNat], c.toNat_lt⟩⟩
            clear HT
            go_wp2_with fail
            go_loopw [8] (fun iv wr => ∃ (i k : Nat), i ≤ n ∧ iv = .int .i64 ((i : Int) - 2) ∧ Hid (i = 2 * k) ∧ Hid (∃ R, TabAt wr B R ∧ ∀ c : UInt8, byteTo ((qs.drop k).map tb) c = [UInt8.ofNat (R c.toNat)] ∧ R c.toNat < 256) ∧ Hid (Below w.heap.size w wr)) (fun iv _ => (RowKit.intOf iv + 2).toNat)
            case atStart => exact ⟨n, qs.length, Nat.le_refl _, rfl, HL, HT1, HB⟩
            case round =>
              clear HT1 HB
              obtain ⟨i, k, hin, rfl, HI, HT, HB⟩ := hrel
              cases k with
              | zero =>
                obtain rfl : i = 0 := HI.out
                rw [show (((0 : Nat) : Int) - 2) = -2 from rfl]
                go_wp2_with fail
                go_ret
                obtain ⟨R, hT, hR⟩ := HT.out
                exact ⟨_, rfl, .bytes B R HNS.out HO.out HNw.out hT (by simpa using hR) (by rw [HBB.out]; exact Nat.le_refl _), HB.out⟩
              | succ k =>
                obtain ⟨j, rfl⟩ : ∃ j, i = j + 2 := ⟨i - 2, by have := HI.out; omega⟩
                rw [show (((j + 2 : Nat) : Int) - 2) = (j : Int) by omega]
                obtain ⟨q, hq⟩ : ∃ q, qs[k]? = some q := ⟨_, List.getElem?_eq_getElem (by have := HI.out; have := HL.out; omega)⟩
                have hx0 : xs[j]? = some q.1 := by rw [show j = 2 * k by have := HI.out; omega]; exact (HP.out.2 k q hq).1
                have hx1 : xs[j + 1]? = some q.2 := by rw [show j = 2 * k by have := HI.out; omega]; exact (HP.out.2 k q hq).2
                obtain ⟨G, o, eA, hGl, d0⟩ := HC.out j q.1 hx0
                obtain ⟨G', o', eA', hGl', d1⟩ := HC.out (j + 1) q.2 hx1
                have eA2 := eA.symm.trans eA'
                obtain ⟨rfl, rfl⟩ : G = G' ∧ o = o' := by cases eA2; exact ⟨rfl, rfl⟩
                first | subst eA | (cases eA)
                have c0 := Eq.trans (HB.out.cell (p := ⟨_, _, none⟩) hGl) d0
                have c1 := Eq.trans (HB.out.cell (p := ⟨_, _, none⟩) hGl) d1
                have hqm := List.mem_of_getElem? hq
                have s1 := size_one (HO.out q hqm)
                have s2 := size_one (HNw.out q hqm)
                have i1 : 0 < q.1.size := by rw [HO.out q hqm]; decide
                have i2 : 0 < q.2.size := by rw [HNw.out q hqm]; decide
                have w5 := idx_run q.1 0 0 rfl i1
                have w6 := idx_run q.2 0 0 rfl i2
                rw [← bt_at q.1 0 i1] at w5
                rw [← bt_at q.2 0 i2] at w6
                generalize bt q.1 0 = x at w5 s1
                generalize bt q.2 0 = y at w6 s2
                have x256 := x.toNat_lt
                have y256 := y.toNat_lt
                obtain ⟨R, hT, hR⟩ := HT.out
                have cx := hT.c x.toNat x256
                have fx := hT.nf x.toNat
                have HTR := Lib.hid hT
                have HRR := Lib.hid hR
                have HS1 := Lib.hid s1
                have HS2 := Lib.hid s2
                have HQ := Lib.hid hq
                have hjn : (j : Int) < (n : Int) := by omega
                have hjn1 : (j : Int) + 1 < (n : Int) := by have := HI.out; have := HL.out; omega
                have hj0 : (0 : Int) ≤ (j : Int) := by omega
                clear eA' eA2 hq hx0 hx1 hqm d0 d1 hT hR HT s1 s2
                go_wp2_with fail
                go_roundw
                case rel =>
                  refine ⟨j, k, by omega, rfl, Lib.hid (by have := HI.out; omega), Lib.hid ⟨_, HTR.out.set x.toNat y.toNat x256, fun c => ?_⟩, Lib.hid (HB.out.setCell (by rw [HBB.out]; exact Nat.le_refl _) _)⟩
                  have hd : qs.drop k = q :: qs.drop (k + 1) := by
                    obtain ⟨hk, e⟩ := List.getElem?_eq_some_iff.1 HQ.out
                    rw [List.drop_eq_getElem_cons hk, e]
                  rw [hd, List.map_cons, byteTo_cons]
                  show (if (q.1.data.toList == [c]) = true then q.2.data.toList else _) = _ ∧ _
                  rw [HS1.out, HS2.out]
                  by_cases e : c = x
                  · subst e
                    rw [if_pos (by simp), if_pos rfl, UInt8.ofNat_toNat]
                    exact ⟨rfl, y256⟩
                  · have e1 : ¬ c.toNat = x.toNat := fun h => e (UInt8.toNat_inj.1 h)
                    rw [if_neg (by simpa using fun h => e h.symm), if_neg e1]
                    exact HRR.out c
                case measure => simp [RowKit.intOf]; omega
end Go.Proofs.Ytnigbgablginnaa


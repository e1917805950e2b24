/- The walk of FnAhead (printed by mkAhead.py). -/
import Derived.Test.YtnigbgablginnaaGenS
import Derived.Test.YtnigbgablginnaaInvR
set_option linter.unusedVariables false
namespace Go.Proofs.Ytnigbgablginnaa
open Go.RowKit Go.Lib

set_option maxRecDepth 100000 in
set_option maxHeartbeats 4000000 in
theorem ahead_core (x0 x1 s Y : ByteArray) (G o n c : Nat) (xs : List ByteArray) (w : World) (HFi : Hid (Calls Try.prog 18 #[.slice (some ⟨G, o, none⟩) n c] w fun e w' => e = .returned (.bool true) ∧ w = w')) (HE : Hid (Calls Try.prog 19 #[.slice (some ⟨G, o, none⟩) n c] w fun e w' => e = .returned (.bool true) ∧ w = w'))
    (HSo : Hid (Calls Try.prog 20 #[.slice (some ⟨G, o, none⟩) n c] w (SomeBl true w))) (hn : 2 ≤ n) (hG : G < w.heap.size) (hc0 : w.cell? ⟨G, o + 0, none⟩ = some (.string x0)) (hc1 : w.cell? ⟨G, o + 1, none⟩ = some (.string x1)) (HV : Hid (StrsAt w (.slice (some ⟨G, o, none⟩) n c) xs)) (hs : s.size ≤ 1048576) (d2 : x0.size + s.size ≤ 4611686018427387904) (d3 : x1.size + Y.size ≤ 4611686018427387904)
    (HT : Hid (∀ W, StrsAt W (.slice (some ⟨G, o, none⟩) n c) xs → Calls Try.prog 25 #[.slice (some ⟨G, o, none⟩) n c, .string s] W (SomeS Y W)))
    (HI : Hid (∀ W, StrsAt W (.slice (some ⟨G, o, none⟩) n c) xs → Calls Try.prog 23 #[.slice (some ⟨G, o, none⟩) n c, .string (x0 ++ s), .string (x1 ++ Y)] W (RpIsR true W))) :
    Calls Try.prog 10 #[.slice (some ⟨G, o, none⟩) n c, .string s] w fun e w' => e = .returned (.bool true) ∧ Below w.heap.size w w' := by
  have hnz : ((n : Int) == 0) = false := by rw [beq_eq_false_iff_ne]; omega
  have i0 : 0 < n := by omega
  have i1 : 1 < n := by omega
  go_enter Try.func10, Try.ntmps10
  go_wp2_with (first | (go_at_call 18; (with_reducible refine HFi.out.mono ?_); rintro e w' ⟨rfl, rfl⟩) | (go_at_call 19; (with_reducible refine HE.out.mono ?_); rintro e w' ⟨rfl, rfl⟩) | (go_at_call 20; (with_reducible refine HSo.out.mono ?_); rintro e w1 ⟨rfl, hB⟩; have HB1 := Lib.hid hB; have c0 : w1.cell? ⟨G, o + 0, none⟩ = some (.string x0) := (hB.cell (p := ⟨G, o + 0, none⟩) hG).trans hc0; have c1 : w1.cell? ⟨G, o + 1, none⟩ = some (.string x1) := (hB.cell (p := ⟨G, o + 1, none⟩) hG).trans hc1; have HV1 := Lib.hid (HV.out.below hB); have hG1 : G < w1.heap.size := Nat.lt_of_lt_of_le hG hB.size; clear hB))
  clear HV hG hc0 hc1 HFi HE HSo
  refine wp_region_inv (by kernel_rfl) (fun j => [isV (.slice (some ⟨G, o, none⟩) n c), isV (.slice (some ⟨G, o, none⟩) n c), isV (.pointer (some ⟨G, o + 0, none⟩)), isV (.string x0), isV (.string s), isV (.string (x0 ++ s)), isV (.slice (some ⟨G, o, none⟩) n c), isV (.pointer (some ⟨G, o + 1, none⟩)), isV (.string x1), isV (.slice (some ⟨G, o, none⟩) n c), isV (.string s), isV (.string Y), isV (.string (x1 ++ Y)), isV (.bool true), isV (.bool true)].getD j anyV) (by kernel_rfl) ?steps ?fin
  case steps =>
    refine ⟨?_, ?_, ?_, ?_, ?_, ?_, ?_, ?_, ?_, ?_, ?_, ?_, ?_, ?_, ?_, trivial⟩
    · intro A W hbl hsz hbase hdep
      have E : A.tmps.getD 0 undef = .slice (some ⟨G, o, none⟩) n c := hbase 0 (by kernel_rfl)
      exact od_move (wanted_none rfl _) rfl E
    · intro A W hbl hsz hbase hdep
      have E : A.tmps.getD 0 undef = .slice (some ⟨G, o, none⟩) n c := hbase 0 (by kernel_rfl)
      exact od_move (wanted_none rfl _) rfl E
    · intro A W hbl hsz hbase hdep
      have E0 : A.tmps.getD 27 undef = .slice (some ⟨G, o, none⟩) n c := hdep 1 27 (by kernel_rfl) (by kernel_rfl)
      exact od_sidx i0 (wanted_none rfl _) rfl E0
    · intro A W hbl hsz hbase hdep
      have E0 : A.tmps.getD 28 undef = .pointer (some ⟨G, o + 0, none⟩) := hdep 2 28 (by kernel_rfl) (by kernel_rfl)
      exact od_sload ((Below.cell hbl (p := ⟨G, o + 0, none⟩) hG1).trans c0) (wanted_none rfl _) rfl E0
    · intro A W hbl hsz hbase hdep
      have E : A.tmps.getD 1 undef = .string s := hbase 1 (by kernel_rfl)
      exact od_move (wanted_none rfl _) rfl E
    · intro A W hbl hsz hbase hdep
      have E0 : A.tmps.getD 29 undef = .string x0 := hdep 3 29 (by kernel_rfl) (by kernel_rfl)
      have E1 : A.tmps.getD 30 undef = .string s := hdep 4 30 (by kernel_rfl) (by kernel_rfl)
      exact od_cat d2 (wanted_none rfl _) rfl E0 E1
    · intro A W hbl hsz hbase hdep
      have E : A.tmps.getD 0 undef = .slice (some ⟨G, o, none⟩) n c := hbase 0 (by kernel_rfl)
      exact od_move (wanted_none rfl _) rfl E
    · intro A W hbl hsz hbase hdep
      have E0 : A.tmps.getD 32 undef = .slice (some ⟨G, o, none⟩) n c := hdep 6 32 (by kernel_rfl) (by kernel_rfl)
      exact od_sidx i1 (wanted_none rfl _) rfl E0
    · intro A W hbl hsz hbase hdep
      have E0 : A.tmps.getD 33 undef = .pointer (some ⟨G, o + 1, none⟩) := hdep 7 33 (by kernel_rfl) (by kernel_rfl)
      exact od_sload ((Below.cell hbl (p := ⟨G, o + 1, none⟩) hG1).trans c1) (wanted_none rfl _) rfl E0
    · intro A W hbl hsz hbase hdep
      have E : A.tmps.getD 0 undef = .slice (some ⟨G, o, none⟩) n c := hbase 0 (by kernel_rfl)
      exact od_move (wanted_none rfl _) rfl E
    · intro A W hbl hsz hbase hdep
      have E : A.tmps.getD 1 undef = .string s := hbase 1 (by kernel_rfl)
      exact od_move (wanted_none rfl _) rfl E
    · intro A W hbl hsz hbase hdep
      have E0 : A.tmps.getD 35 undef = .slice (some ⟨G, o, none⟩) n c := hdep 9 35 (by kernel_rfl) (by kernel_rfl)
      have E1 : A.tmps.getD 36 undef = .string s := hdep 10 36 (by kernel_rfl) (by kernel_rfl)
      refine od_call hbl (wanted_none rfl _) rfl (enters_of Try.func25 (by kernel_rfl) rfl) ?_
      show Calls Try.prog 25 #[A.tmps.getD 35 undef, A.tmps.getD 36 undef] W _
      rw [E0, E1]
      exact (HT.out W (HV1.out.below hbl)).mono (fun e w' ⟨he, hb⟩ => ⟨_, he, rfl, hb⟩)
    · intro A W hbl hsz hbase hdep
      have E0 : A.tmps.getD 34 undef = .string x1 := hdep 8 34 (by kernel_rfl) (by kernel_rfl)
      have E1 : A.tmps.getD 37 undef = .string Y := hdep 11 37 (by kernel_rfl) (by kernel_rfl)
      exact od_cat d3 (wanted_none rfl _) rfl E0 E1
    · intro A W hbl hsz hbase hdep
      have E0 : A.tmps.getD 26 undef = .slice (some ⟨G, o, none⟩) n c := hdep 0 26 (by kernel_rfl) (by kernel_rfl)
      have E1 : A.tmps.getD 31 undef = .string (x0 ++ s) := hdep 5 31 (by kernel_rfl) (by kernel_rfl)
      have E2 : A.tmps.getD 38 undef = .string (x1 ++ Y) := hdep 12 38 (by kernel_rfl) (by kernel_rfl)
      refine od_call hbl (wanted_none rfl _) rfl (enters_of Try.func23 (by kernel_rfl) rfl) ?_
      show Calls Try.prog 23 #[A.tmps.getD 26 undef, A.tmps.getD 31 undef, A.tmps.getD 38 undef] W _
      rw [E0, E1, E2]
      exact (HI.out W (HV1.out.below hbl)).mono (fun e w' ⟨he, hb⟩ => ⟨_, he, rfl, hb⟩)
    · intro A W hbl hsz hbase hdep
      have E : A.tmps.getD 39 undef = .bool true := hdep 13 39 (by kernel_rfl) (by kernel_rfl)
      exact od_assign (wanted_none rfl _) rfl E
  case fin =>
    rintro ⟨T, d⟩ w' hbl hdef hsz hbase hall
    obtain rfl : d = [] := hdef
    have e4 : T.getD 4 undef = .bool true := hall 14 4 (by kernel_rfl)
    have HE4 := Lib.hid e4
    have HL := Lib.hid hbl
    clear hsz hbase hall e4 hbl
    go_wp2
    go_ret
    exact ⟨by rw [HE4.out], HB1.out.trans (Below.mono HL.out HB1.out.size)⟩
set_option maxRecDepth 100000 in
set_option maxHeartbeats 4000000 in
theorem walk_FnAhead (v : Value) (xs : List ByteArray) (s : ByteArray) (w : World) (hv : StrsAt w v xs) (hz : ∀ x ∈ xs, x.size ≤ maxLen) (hl : xs.length ≤ maxLen) (_hs : s.size ≤ maxLen) (hb : bulkS xs + s.size ≤ 1048576) :
    Calls Try.prog 10 #[v, .string s] w fun e w' => e = .returned (.bool true) ∧ Below w.heap.size w w' := by
  have HFi := Lib.hid (front hv hl (by omega))
  have hss : s.size ≤ 1048576 := by omega
  have HV := Lib.hid hv
  by_cases he : xs.length % 2 = 0
  · have HE := Lib.hid (front_even hv hl true (by simp [he]))
    have hfew := front_few he (by omega : bulkS xs ≤ 1048576)
    have HSo := Lib.hid (Solid xs v w hv (by have := bulkS_len xs; omega))
    cases xs with
    | nil =>
      obtain ⟨A, c, rfl⟩ := hv.shape
      clear hv hz hl hb he hfew HSo HV
      generalize hn : ([] : List ByteArray).length = n at *
      have hnz : ((n : Int) == 0) = true := by rw [← hn]; rfl
      clear hn
      go_enter Try.func10, Try.ntmps10
      go_wp2_with (first | (go_at_call 18; (with_reducible refine HFi.out.mono ?_); rintro e w' ⟨rfl, rfl⟩) | (go_at_call 19; (with_reducible refine HE.out.mono ?_); rintro e w' ⟨rfl, rfl⟩))
      go_ret
      exact ⟨rfl, Below.refl _ _⟩
    | cons x0 r =>
      cases r with
      | nil => simp at he
      | cons x1 r =>
        obtain ⟨A, c, rfl⟩ := hv.shape
        obtain ⟨_, hc, hcells⟩ := hv.cells
        obtain ⟨G, o, rfl, hG, hc0⟩ := hcells 0 x0 rfl
        obtain ⟨G', o', eG, hG', hc1⟩ := hcells 1 x1 rfl
        obtain ⟨rfl, rfl⟩ : G = G' ∧ o = o' := by cases eG; exact ⟨rfl, rfl⟩
        have hn2 : 2 ≤ (x0 :: x1 :: r).length := by simp
        by_cases hso : solidB (oldsOf (x0 :: x1 :: r)) = true
        · rw [hso] at HSo
          have hsol : solid ((x0.data.toList, x1.data.toList) :: pairUp (r.map (·.data.toList))) := fun p hp => by
            obtain ⟨q, hq, e⟩ := prs_mem (xs := x0 :: x1 :: r) he hp
            have h1 := solidB_iff.1 hso _ (pairUp_mem he hq).1
            rw [e]
            show q.1.data.toList ≠ []
            intro hn
            have := Lib.size_eq q.1
            rw [hn, List.length_nil] at this
            omega
          obtain ⟨Y, hY⟩ : ∃ Y : ByteArray, Y = ⟨(repl (prs (x0 :: x1 :: r)) s.data.toList true).toArray⟩ := ⟨_, rfl⟩
          have hYs : Y.size ≤ 4194305 * 2097153 := by rw [hY]; exact few_len hfew s.data.toList (by rw [← Lib.size_eq]; omega)
          have hx0 : x0.size ≤ 1048576 := by have := bulkS_mem (x := x0) (xs := x0 :: x1 :: r) (by simp); omega
          have hx1 := hfew.2.2 x1 (by simp)
          have hT := fun W hW => rpTextA hfew (.slice (some ⟨G, o, none⟩) (x0 :: x1 :: r).length c) s W hW (by omega)
          unfold TextR at hT
          rw [← hY] at hT
          have hI := fun W hW => rpIsA hfew (.slice (some ⟨G, o, none⟩) (x0 :: x1 :: r).length c) (x0 ++ s) (x1 ++ Y) W hW (by rw [ByteArray.size_append]; omega) (by
            rw [hY, ByteArray.data_append, ByteArray.data_append, Array.toList_append, Array.toList_append]
            exact repl_ahead (x0.data.toList, x1.data.toList) _ hsol _)
          exact ahead_core x0 x1 s Y G o _ c _ w HFi HE HSo hn2 hG hc0 hc1 HV hss (by omega) (by omega) (Lib.hid hT) (Lib.hid hI)
        · rw [Bool.not_eq_true] at hso
          rw [hso] at HSo
          clear hso hcells hc hv he HV hfew hz hl hb hc0 hc1 hG hG'
          generalize hn : (x0 :: x1 :: r).length = n at *
          have hnz : ((n : Int) == 0) = false := by rw [beq_eq_false_iff_ne]; omega
          clear hn
          go_enter Try.func10, Try.ntmps10
          go_wp2_with (first | (go_at_call 18; (with_reducible refine HFi.out.mono ?_); rintro e w' ⟨rfl, rfl⟩) | (go_at_call 19; (with_reducible refine HE.out.mono ?_); rintro e w' ⟨rfl, rfl⟩) | (go_at_call 20; (with_reducible refine HSo.out.mono ?_); rintro e w1 ⟨rfl, hB⟩; have HB1 := Lib.hid hB; clear hB))
          go_ret
          exact ⟨rfl, HB1.out⟩
  · have HE := Lib.hid (front_even hv hl false (by simp [he]))
    obtain ⟨A, c, rfl⟩ := hv.shape
    clear hv hz hl hb he HV
    go_enter Try.func10, Try.ntmps10
    go_wp2_with (first | (go_at_call 18; (with_reducible refine HFi.out.mono ?_); rintro e w' ⟨rfl, rfl⟩) | (go_at_call 19; (with_reducible refine HE.out.mono ?_); rintro e w' ⟨rfl, rfl⟩))
    go_ret
    exact ⟨rfl, Below.refl _ _⟩
end Go.Proofs.Ytnigbgablginnaa

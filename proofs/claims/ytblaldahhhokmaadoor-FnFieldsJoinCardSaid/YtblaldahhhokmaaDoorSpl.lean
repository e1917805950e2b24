/- gostrings.genSplit at a separator that is not empty; slices.Clone at []string (the shelf's walks turned to this program's copies by mkSpl.py). -/
import Derived.Test.YtblaldahhhokmaaDoorCnt
import Derived.Test.YtblaldahhhokmaaDoorStrs
import Derived.Deep.OwnRows
import Derived.Deep.LoopGhost
import Derived.Lib.Split
import Derived.Laws.Strings3
import Derived.WalkSpells
import Derived.WalkLawsBesides
import Derived.OwnWalk
import Derived.Laws.OwnMore
set_option linter.unusedVariables false
namespace Go.Proofs.YtblaldahhhokmaaDoor
open Go.RowKit Go.Lib

theorem strInfo : (Tryd.prog.info? 9).map (fun i => (i.zero, i.size, i.bytes)) = some (some (.string ByteArray.empty), 1, 16) := by kernel_rfl

set_option maxHeartbeats 4000000 in
set_option maxRecDepth 1000000 in
theorem genSplit_core (s sep : ByteArray) (sv : Nat) (n : Int) (N : Nat) (w : World) (hs : s.size < 4294967281) (h1 : 1 ≤ sep.size) (hsv : sv ≤ sep.size)
    (hI : ∀ (x : ByteArray) (c : Array Value), x.size ≤ s.size → Calls Tryd.prog 75 #[.string x, .string sep] (w.alloc (.cells c 9)) fun e w' => e = .returned (.int .i64 (Lib.indexB x sep)) ∧ w' = w.alloc (.cells c 9))
    (hC : Calls Tryd.prog 74 #[.string s, .string sep] w fun e w' => e = .returned (.int .i64 (Lib.countB s sep)) ∧ w' = w)
    (hn0 : n ≠ 0) (hn63 : n ≤ 9223372036854775807) (hN : (N : Int) = min (if n < 0 then (Lib.countB s sep : Int) + 1 else n) ((s.size : Int) + 1)) :
    Calls Tryd.prog 56 #[.string s, .string sep, .int .i64 sv, .int .i64 n] w fun e w' =>
      e = .returned (.slice (some ⟨w.heap.size, 0, none⟩) (Lib.splitB sep sv (N - 1) s).length N) ∧ w' = w.alloc (.cells (Lib.cellsOf (Lib.splitB sep sv (N - 1) s) N) 9) := by
  obtain ⟨cn, hcn⟩ : ∃ cn : Nat, Lib.countB s sep = cn := ⟨_, rfl⟩
  rw [hcn] at hC hN
  have hcl : cn ≤ s.size + 1 := by rw [← hcn, Lib.size_eq]; exact Lib.count_le _ _
  clear hcn
  have hne : (n == 0) = false := beq_eq_false_iff_ne.2 hn0
  have hse : sep.toList.isEmpty = false := by
    rw [Lib.toList_data]
    cases h : sep.data.toList with
    | nil => have := Lib.size_eq sep; rw [h, List.length_nil] at this; omega
    | cons _ _ => rfl
  -- THE NUMBER OF PIECES AT MOST, under one name
  obtain ⟨eN, hdec⟩ : (min (if n < 0 then (cn : Int) + 1 else n) ((s.size : Int) + 1) = (N : Int)) ∧ True := ⟨hN.symm, trivial⟩
  -- THE LOOP AND WHAT STANDS BEHIND IT, the same on both ways to it
  have eNn : n < 0 → min ((cn : Int) + 1) ((s.size : Int) + 1) = (N : Int) := fun h => by rw [← eN, if_pos h]
  have eNp : ¬ n < 0 → min n ((s.size : Int) + 1) = (N : Int) := fun h => by rw [← eN, if_neg h]
  clear eN hN hdec
  by_cases hneg : n < 0
  all_goals
    (first | have eN' := eNn hneg | have eN' := eNp hneg)
    clear eNn eNp
    have hNs : (N : Int) ≤ (s.size : Int) + 1 := by rw [← eN']; exact Int.min_le_right _ _
    have hN1 : (1 : Int) ≤ (N : Int) := by rw [← eN']; exact Int.le_min.2 ⟨by omega, by omega⟩
    have hmk := run_make_row' (P := Tryd.prog) 24 9 (.string ByteArray.empty) 16 Tryd.underlying24 strInfo rfl .i64 .i64 N (by omega) (by omega)
    go_enter Tryd.func56, Tryd.ntmps56
    go_wp2_with (first | (go_at_call 74; refine hC.mono ?_; rintro e w' ⟨rfl, hw⟩; rw [hw]))
    clear hmk hC
    go_loopg [0, 10] (N - 1) (fun g s0 s10 wr => ∃ (done : List ByteArray) (rest : ByteArray), s0 = .string rest ∧ s10 = .int .i64 done.length ∧ done.length ≤ N - 1 ∧ g = N - 1 - done.length ∧ rest.size ≤ s.size ∧
      wr = w.alloc (.cells (Lib.cellsOf done N) 9) ∧ done ++ Lib.splitB sep sv (N - 1 - done.length) rest = Lib.splitB sep sv (N - 1) s)
    case atStart => exact ⟨[], s, rfl, rfl, Nat.zero_le _, rfl, Nat.le_refl _, by rw [Lib.cellsOf_nil], rfl⟩
    case round =>
      obtain ⟨done, rest, rfl, rfl, hd, rfl, hrs, rfl, hsp⟩ := hrel
      have hnext : (Lib.cellsOf done N)[done.length]? = some (.string ByteArray.empty) := Lib.cellsOf_next (by omega)
      have HS : Aside (done ++ Lib.splitB sep sv (N - 1 - done.length) rest = Lib.splitB sep sv (N - 1) s) := hsp
      clear hsp
      -- HOW IT ENDS, by whichever way the loop is left: 'a[i] = s; return a[:i+1]'
      have fin : Lib.splitB sep sv (N - 1 - done.length) rest = [rest] → (Lib.splitB sep sv (N - 1) s).length = done.length + 1 ∧ (Lib.cellsOf done N).setIfInBounds done.length (.string rest) = Lib.cellsOf (Lib.splitB sep sv (N - 1) s) N := fun h => by
        have e := HS.out
        rw [h] at e
        rw [← e]
        exact ⟨by simp, Lib.cellsOf_set (by omega) rest⟩
      by_cases hlt : done.length < N - 1
      · have hltz : ((done.length : Nat) : Int) < (N : Int) - 1 := by omega
        rcases Lib.indexB_cases rest sep with hix | ⟨i, hix, hroom⟩
        · -- no instance more: 'break'
          go_wp2_with (first | (go_at_call 75; refine (hI rest _ hrs).mono ?_; rintro e w' ⟨rfl, hw⟩; rw [hw, hix]))
          go_ret
          obtain ⟨f1, f2⟩ := fin (Lib.splitB_miss sep sv _ rest hix)
          rw [f1, ← f2]
          exact ⟨by first | rfl | (congr 2 <;> omega), rfl⟩
        · -- an instance at i: 'a[i] = s[:m+sepSave]; s = s[m+len(sep):]; i++'
          have c0 : ¬ ((i : Int) < 0) := by omega
          have c1 : (0 : Int) ≤ ↑i + ↑sv := by omega
          have c2 : (↑i + ↑sv : Int) ≤ ↑rest.size := by omega
          have c3 : (0 : Int) ≤ ↑i + ↑sep.size := by omega
          have c4 : (↑i + ↑sep.size : Int) ≤ ↑rest.size := by omega
          go_wp2_with (first | (go_at_call 75; refine (hI rest _ hrs).mono ?_; rintro e w' ⟨rfl, hw⟩; rw [hw, hix]))
          go_roundg (N - 1 - (done.length + 1))
          case measure => omega
          case rel =>
            refine ⟨done ++ [rest.extract 0 (i + sv)], rest.extract (i + sep.size) rest.size, rfl, by simp, by simp; omega, by simp, by rw [ByteArray.size_extract]; omega, by rw [← Lib.cellsOf_set (by omega)], ?_⟩
            rw [← HS.out, show N - 1 - done.length = (N - 1 - (done.length + 1)) + 1 by omega, Lib.splitB_hit sep sv _ rest i hix]
            simp
      · -- as many pieces as were asked for, but one: the rest is the last
        have hltz : ¬ (((done.length : Nat) : Int) < (N : Int) - 1) := by omega
        go_wp2
        go_ret
        obtain ⟨f1, f2⟩ := fin (by rw [show N - 1 - done.length = 0 by omega]; rfl)
        rw [f1, ← f2]
        exact ⟨by first | rfl | (congr 2 <;> omega), rfl⟩

set_option maxHeartbeats 2000000 in
set_option maxRecDepth 100000 in
theorem Clone_string (b off n c : Nat) (zs : List ByteArray) (w : World) (hz : n ≤ zs.length) (hbig : n * 16 ≤ 140737488355328) (hc : ∀ j, j < zs.length → w.cell? ⟨b, off + j, none⟩ = some (.string (zs.getD j ByteArray.empty))) :
    Calls Tryd.prog 37 #[.slice (some ⟨b, off, none⟩) n c] w fun e w' => ∃ v', e = .returned v' ∧ w'.ownsRow w.heap.size 9 1 v' n ((zs.take n).map (Value.string)) ∧ v' ≠ .slice none 0 0 ∧ Below w.heap.size w w' := by
  obtain ⟨i0, hi, hz0, hz1, hz2⟩ := info_parts strInfo
  have q24 : ∀ (w : World) (a : Option Addr) (n c n' c' : Nat), (binOp .eql 24 (.slice a n c) (.slice none n' c')).run Tryd.prog w = .ok (.bool a.isNone) w := fun w a n c n' c' => Lib.run_eql_slice_nil w _ _ a n c n' c' Tryd.underlying24
  have u24 : ∀ w, Sem.run Tryd.prog (underlying 24) w = .ok (TypeDesc.slice 9) w := run_underlying Tryd.underlying24
  have A : Aside (∀ j, j < zs.length → w.cell? ⟨b, off + j, none⟩ = some (.string (zs.getD j ByteArray.empty))) := hc
  clear hc
  go_enter Tryd.func37, Tryd.ntmps37
  go_wp2_with (at_builtin; refine wpList_append_own _ rfl _ _ 24 rfl w.heap.size 9 i0 (.string { data := #[] }) 1 16 Tryd.underlying24 hi hz0 hz1 hz2 rfl (by decide) _ _ _ rfl (World.ownsRow_made w #[] 0 (Nat.le_refl _) (Nat.zero_le _) rfl) ⟨b, off, none⟩ n c ((zs.take n).map (Value.string)) rfl ?qc1 ?qc2 ?qc3 ?qc4 ?qc5 ?qc6 ?_)
  case qc1 => simp; omega
  case qc2 =>
    intro j u hj
    have hjn : j < n ∧ j < zs.length := by
      have := (List.getElem?_eq_some_iff.1 hj).1
      simp at this
      omega
    rw [Addr.add_lit]
    refine Lib.cell?_alloc_some _ ?_
    rw [A.out j hjn.2]
    have e : ((zs.take n).map (Value.string))[j]? = some (Value.string (zs.getD j ByteArray.empty)) := by simp [List.getD, hjn.1, List.getElem?_eq_getElem hjn.2]
    rw [e] at hj
    exact hj
  case qc3 => intro u hu; obtain ⟨x, _, rfl⟩ := List.mem_map.1 hu; rfl
  case qc4 => unfold maxLen; omega
  case qc5 => omega
  case qc6 => simp
  intro v' w1 hown hgrow hnil
  go_wp2
  go_ret
  refine ⟨v', rfl, by simpa using hown, ?_, ?_⟩
  · exact hnil
  · exact ((Below.refl _ w).alloc (Nat.le_refl _) _).grown hgrow (by simp) (by intro k hk; simp [Value.ownBlock] at hk; omega)

set_option maxHeartbeats 1000000 in
theorem Clone_string_nil (n c : Nat) (w : World) :
    Calls Tryd.prog 37 #[.slice none n c] w fun e w' => e = .returned (.slice none 0 0) ∧ w' = w := by
  have q24 : ∀ (w : World) (a : Option Addr) (n c n' c' : Nat), (binOp .eql 24 (.slice a n c) (.slice none n' c')).run Tryd.prog w = .ok (.bool a.isNone) w := fun w a n c n' c' => Lib.run_eql_slice_nil w _ _ a n c n' c' Tryd.underlying24
  go_enter Tryd.func37, Tryd.ntmps37
  go_wp2
  go_ret
  exact ⟨rfl, rfl⟩

set_option maxHeartbeats 2000000 in
set_option maxRecDepth 100000 in
theorem Clone_string_zero (a : Addr) (c : Nat) (w : World) :
    Calls Tryd.prog 37 #[.slice (some a) 0 c] w fun e w' => ∃ v', e = .returned v' ∧ w'.ownsRow w.heap.size 9 1 v' 0 [] ∧ v' ≠ .slice none 0 0 ∧ Below w.heap.size w w' := by
  obtain ⟨i0, hi, hz0, hz1, hz2⟩ := info_parts strInfo
  have q24 : ∀ (w : World) (a : Option Addr) (n c n' c' : Nat), (binOp .eql 24 (.slice a n c) (.slice none n' c')).run Tryd.prog w = .ok (.bool a.isNone) w := fun w a n c n' c' => Lib.run_eql_slice_nil w _ _ a n c n' c' Tryd.underlying24
  have u24 : ∀ w, Sem.run Tryd.prog (underlying 24) w = .ok (TypeDesc.slice 9) w := run_underlying Tryd.underlying24
  go_enter Tryd.func37, Tryd.ntmps37
  go_wp2_with (at_builtin; refine wpList_append_own _ rfl _ _ 24 rfl w.heap.size 9 i0 (.string { data := #[] }) 1 16 Tryd.underlying24 hi hz0 hz1 hz2 rfl (by decide) _ _ _ rfl (World.ownsRow_made w #[] 0 (Nat.le_refl _) (Nat.zero_le _) rfl) a 0 c [] rfl rfl (by intro j u hj; simp at hj) (by intro u hu; cases hu) (by unfold maxLen; omega) (by omega) (by simp) ?_)
  intro v' w1 hown hgrow hnil
  go_wp2
  go_ret
  refine ⟨v', rfl, by simpa using hown, ?_, ?_⟩
  · first | exact hnil | (intro e; exact absurd (hnil.1 e).1 (by simp))
  · exact ((Below.refl _ w).alloc (Nat.le_refl _) _).grown hgrow (by simp) (by intro k hk; simp [Value.ownBlock] at hk; omega)

/-- gostrings.genSplit at a separator that is not empty. -/
theorem genSplit (s sep : ByteArray) (sv : Nat) (n : Int) (N : Nat) (w : World) (hs : s.size < 4294967281) (h1 : 1 ≤ sep.size) (hsv : sv ≤ sep.size)
    (hn0 : n ≠ 0) (hn63 : n ≤ 9223372036854775807) (hN : (N : Int) = min (if n < 0 then (Lib.countB s sep : Int) + 1 else n) ((s.size : Int) + 1)) :
    Calls Tryd.prog 56 #[.string s, .string sep, .int .i64 sv, .int .i64 n] w fun e w' =>
      e = .returned (.slice (some ⟨w.heap.size, 0, none⟩) (Lib.splitB sep sv (N - 1) s).length N) ∧ w' = w.alloc (.cells (Lib.cellsOf (Lib.splitB sep sv (N - 1) s) N) 9) :=
  genSplit_core s sep sv n N w hs h1 hsv (fun x c hx => (gIndex x sep _ (by omega)).mono fun _ _ ⟨he, hw⟩ => ⟨he, hw.symm⟩) (gCount s sep w hs h1) hn0 hn63 hN

/-- A row of texts that stands in a slice is cloned. -/
theorem CloneS (xs : List ByteArray) (v : Value) (w : World) (hv : StrsAt w v xs) (hl : xs.length < 4294967281) :
    Calls Tryd.prog 37 #[v] w fun e w' => ∃ v', e = .returned v' ∧ StrsAt w' v' xs ∧ Below w.heap.size w w' := by
  obtain ⟨A, c, rfl, hc, hx⟩ := hv
  by_cases h0 : xs = []
  · subst h0
    cases A with
    | none => exact (Clone_string_nil 0 c w).mono fun e w' ⟨he, hw⟩ => ⟨_, he, StrsAt.nil _, hw ▸ Below.refl _ _⟩
    | some a => exact (Clone_string_zero a c w).mono fun e w' ⟨v', he, ho, _, hb⟩ => ⟨v', he, StrsAt.of_own (xs := []) ho, hb⟩
  · obtain ⟨g, o, rfl, hg, hcell⟩ := hx h0
    refine (Clone_string g o xs.length c xs w (Nat.le_refl _) (by omega) (fun j hj => hcell j _ (by simp [List.getD, hj]))).mono ?_
    rintro e w' ⟨v', he, ho, _, hb⟩
    rw [List.take_length] at ho
    exact ⟨v', he, StrsAt.of_own ho, hb⟩
end Go.Proofs.YtblaldahhhokmaaDoor

/- gobytes.Count, genSplit (the shelf's walks turned to this program's copies by mkBSpl.py). -/
import Derived.Test.YtpaieadnicmplaaDoorBIdx2
import Derived.Lib.SlSplitV
import Derived.Lib.Split
import Derived.Lib.HexFns
import Derived.Lib.Slices
import Derived.Lib.Walk
import Derived.Laws.MakeOwn
import Derived.Lib.SlBytesRow
import Derived.Deep.LoopGhost
import Derived.Deep.MidRow
import Derived.WalkSpells
import Derived.WalkLawsBesides
import Derived.OwnWalk
import Derived.Shelf.Bytes.SlSplit
set_option linter.unusedVariables false
namespace Go.Proofs.YtpaieadnicmplaaDoor
open Go.RowKit Go.Lib

theorem bsInfo : (Tryd.prog.info? 23).map (fun i => (i.zero, i.size, i.bytes)) = some (some (.slice none 0 0), 1, 24) := by kernel_rfl
/-- Bytes out of their numbers. -/
def ofNums (zs : List Int) : ByteArray := ⟨(Lib.bytesOf zs).toArray⟩
theorem ofNums_list (zs : List Int) : (ofNums zs).data.toList = Lib.bytesOf zs := rfl
theorem ofNums_size (zs : List Int) : (ofNums zs).size = zs.length := by rw [Lib.size_eq, ofNums_list, Lib.bytesOf_length']
theorem ofNums_bytes {w : World} {b o : Nat} {zs : List Int} (hr : ∀ x ∈ zs, 0 ≤ x ∧ x < 256) (hc : ∀ i, i < zs.length → w.cell? ⟨b, o + i, none⟩ = some (.int .u8 (zs.getD i 0))) : Lib.Bytes w b o (ofNums zs) := fun i hi => by
  rw [ofNums_size] at hi
  rw [hc i hi]
  have hg : zs.getD i 0 = zs[i] := by simp [List.getD, hi]
  have hm := hr zs[i] (List.getElem_mem hi)
  have hb : (ofNums zs)[i]'(by rw [ofNums_size]; exact hi) = UInt8.ofNat (zs[i]).toNat := by
    show (Lib.bytesOf zs).toArray[i]'_ = _
    simp [Lib.bytesOf]
  rw [hb, hg, UInt8.toNat_ofNat', Nat.mod_eq_of_lt (by omega)]
  congr 2
  omega
theorem ibNone (a : Addr) (cap : Nat) (c : Int) (w : World) :
    Calls Tryd.prog 36 #[.slice (some a) 0 cap, .int .u8 c] w fun e w' => e = .returned (.int .i64 (-1)) ∧ w = w' := by
  have h1 : Calls Tryd.prog 50 #[.slice (some a) 0 cap, .int .u8 c] w fun e w' => e = .returned (.int .i64 (-1)) ∧ w = w' := by
    go_enter Tryd.func50, Tryd.ntmps50
    go_wp2
    go_loop [5, 6, 9] (fun _ _ i => i = .int .i64 0) (fun _ _ _ => 0)
    case atStart => rfl
    case round =>
      subst hrel
      go_wp2
      go_ret
      exact ⟨rfl, rfl⟩
  have H1 := Lib.hid h1
  clear h1
  go_enter Tryd.func36, Tryd.ntmps36
  go_wp2_with fail
  refine H1.out.mono ?_
  rintro e w' ⟨rfl, rfl⟩
  go_wp2
  go_ret
  exact ⟨rfl, rfl⟩
set_option maxRecDepth 100000 in
/-- gobytes.Index of nothing, whatever the address. -/
theorem gbIndex_nil (a : Addr) (a2 : Addr) (cap k c2 : Nat) (ys : List Int) (w : World) (hy : ys.length = k) (h1 : 1 ≤ k) (hc2 : ∀ i, i < k → w.cell? (a2.add i) = some (.int .u8 (ys.getD i 0))) (hr2 : ∀ y ∈ ys, 0 ≤ y ∧ y < 256) :
    Calls Tryd.prog 56 #[.slice (some a) 0 cap, .slice (some a2) k c2] w fun e w' => e = .returned (.int .i64 (-1)) ∧ ∃ q, w' = w.drewN q := by
  have n0 : ((k : Int) == 0) = false := beq_eq_false_iff_ne.2 (by omega)
  by_cases hk1 : k = 1
  · subst hk1
    have h0 := hc2 0 (by omega)
    obtain ⟨b2, o2, sp2⟩ := a2
    have e2 : sp2 = none := by
      have := Lib.plain_of_cell h0
      simpa [Addr.add] using congrArg Addr.spot this
    subst e2
    rw [Addr.add_mid, Nat.add_zero] at h0
    clear hc2 hr2
    go_enter Tryd.func56, Tryd.ntmps56
    go_wp2_with (go_at_call 36; refine (ibNone a cap _ _).mono ?_; rintro e w' ⟨rfl, rfl⟩)
    go_ret
    exact ⟨rfl, 0, rfl⟩
  · have n1 : ((k : Int) == 1) = false := beq_eq_false_iff_ne.2 (by omega)
    have n2 : ((k : Int) == ((0 : Nat) : Int)) = false := beq_eq_false_iff_ne.2 (by omega)
    have n3 : (0 : Int) < (k : Int) := by omega
    clear hc2 hr2
    go_enter Tryd.func56, Tryd.ntmps56
    go_wp2
    go_ret
    exact ⟨rfl, 0, rfl⟩
theorem gbIndexA (a a2 : Addr) (n c1 k c2 : Nat) (xs ys : List Int) (w : World) (hx : xs.length = n) (hy : ys.length = k) (hr1 : ∀ x ∈ xs, 0 ≤ x ∧ x < 256) (hr2 : ∀ y ∈ ys, 0 ≤ y ∧ y < 256)
    (hc1 : ∀ i, i < n → w.cell? (a.add i) = some (.int .u8 (xs.getD i 0))) (hc2 : ∀ i, i < k → w.cell? (a2.add i) = some (.int .u8 (ys.getD i 0))) (hcap : n ≤ c1) (hs : n < 4294967281) (h1 : 1 ≤ k) :
    Calls Tryd.prog 56 #[.slice (some a) n c1, .slice (some a2) k c2] w fun e w' => e = .returned (.int .i64 (Lib.index (Lib.bytesOf xs) (Lib.bytesOf ys))) ∧ ∃ q, w' = w.drewN q := by
  by_cases hn : n = 0
  · subst hn
    obtain rfl : xs = [] := List.eq_nil_of_length_eq_zero hx
    have e : Lib.index (Lib.bytesOf []) (Lib.bytesOf ys) = -1 := by
      have hyl : (Lib.bytesOf ys).length = k := by rw [Lib.bytesOf_length', hy]
      show Lib.index [] (Lib.bytesOf ys) = -1
      cases hq : Lib.bytesOf ys with
      | nil => rw [hq] at hyl; simp at hyl; omega
      | cons b l => rfl
    rw [e]
    exact gbIndex_nil a a2 c1 k c2 ys w hy h1 hc2 hr2
  · have h0 := hc1 0 (by omega)
    have e1 : a = ⟨a.block, a.off, none⟩ := Lib.plain_of_cell (by simpa [Addr.add] using h0)
    have h2 := hc2 0 (by omega)
    have e2 : a2 = ⟨a2.block, a2.off, none⟩ := Lib.plain_of_cell (by simpa [Addr.add] using h2)
    rw [e1, e2]
    rw [e1] at hc1
    rw [e2] at hc2
    have hB1 : Lib.Bytes w a.block a.off (ofNums xs) := ofNums_bytes hr1 (fun i hi => by have := hc1 i (by omega); rwa [Addr.add_mid] at this)
    have hB2 : Lib.Bytes w a2.block a2.off (ofNums ys) := ofNums_bytes hr2 (fun i hi => by have := hc2 i (by omega); rwa [Addr.add_mid] at this)
    have := gbIndex a.block a.off c1 a2.block a2.off c2 (ofNums xs) (ofNums ys) w (by rw [ofNums_size]; omega) hB1 hB2 (by rw [ofNums_size]; omega)
    rw [ofNums_size, ofNums_size, hx, hy] at this
    exact this

set_option maxHeartbeats 4000000 in
set_option maxRecDepth 1000000 in
theorem gbCount_at (a1 a2 : Addr) (n c1 k c2 : Nat) (xs ys : List Int) (w : World) (hx : xs.length = n) (hy : ys.length = k) (hr1 : ∀ x ∈ xs, 0 ≤ x ∧ x < 256) (hr2 : ∀ y ∈ ys, 0 ≤ y ∧ y < 256)
    (hc1 : ∀ i, i < n → w.cell? (a1.add i) = some (.int .u8 (xs.getD i 0))) (hc2 : ∀ i, i < k → w.cell? (a2.add i) = some (.int .u8 (ys.getD i 0))) (hcap : n ≤ c1) (hs : n < 4294967281) (hk : k ≤ 9223372036854775807) (h2 : 2 ≤ k) :
    Calls Tryd.prog 55 #[.slice (some a1) n c1, .slice (some a2) k c2] w fun e w' => e = .returned (.int .i64 (Lib.count (Lib.bytesOf xs) (Lib.bytesOf ys))) ∧ ∃ q, w' = w.drewN q := by
  have n0 : ((k : Int) == 0) = false := beq_eq_false_iff_ne.2 (by omega)
  have n1 : ((k : Int) == 1) = false := beq_eq_false_iff_ne.2 (by omega)
  -- bytes.Index, at whatever piece of s, in whatever world lies some draws behind w
  have hIdx : Aside (∀ (a : Addr) (ln cap q : Nat) (zs : List Int), zs.length = ln → (∀ x ∈ zs, 0 ≤ x ∧ x < 256) → (∀ i, i < ln → w.cell? (a.add i) = some (.int .u8 (zs.getD i 0))) → ln ≤ cap → ln < 4294967281 →
      Calls Tryd.prog 56 #[.slice (some a) ln cap, .slice (some a2) k c2] (w.drewN q) fun e w' => e = .returned (.int .i64 (Lib.index (Lib.bytesOf zs) (Lib.bytesOf ys))) ∧ ∃ q', w' = w.drewN q') := fun a ln cap q zs hz hrz hcz hcp hsz =>
    (gbIndexA a a2 ln cap k c2 zs ys (w.drewN q) hz hy hrz hr2 (fun i hi => by simpa using hcz i hi) (fun i hi => by simpa using hc2 i hi) hcp hsz (by omega)).mono fun e w' ⟨he, q', hw⟩ => ⟨he, q + q', by rw [hw, World.drewN_drewN]⟩
  have hyl : (Lib.bytesOf ys).length = k := by rw [Lib.bytesOf_length, hy]
  have hyn : Lib.bytesOf ys ≠ [] := fun e => by rw [e] at hyl; simp at hyl; omega
  clear hc2
  go_enter Tryd.func55, Tryd.ntmps55
  go_wp2
  go_loopg [0, 5] (n + 1) (fun gh sv nv wr => ∃ (a : Addr) (zs : List Int) (ln cap cnt q : Nat), sv = .slice (some a) ln cap ∧ nv = .int .i64 cnt ∧ wr = w.drewN q ∧ zs.length = ln ∧ ln ≤ cap ∧ cnt + ln ≤ n ∧ ln + 1 ≤ gh ∧
      Aside ((∀ x ∈ zs, 0 ≤ x ∧ x < 256) ∧ (∀ i, i < ln → w.cell? (a.add i) = some (.int .u8 (zs.getD i 0))) ∧ cnt + Lib.count (Lib.bytesOf zs) (Lib.bytesOf ys) = Lib.count (Lib.bytesOf xs) (Lib.bytesOf ys)))
  case atStart => exact ⟨a1, xs, n, c1, 0, 0, rfl, rfl, rfl, hx, hcap, by omega, by omega, hr1, hc1, by omega⟩
  case round =>
    obtain ⟨a, zs, ln, cap, cnt, q, rfl, rfl, rfl, hz, hcp, hcn, hgh, A⟩ := hrel
    have hcon := hIdx.out a ln cap q zs hz A.out.1 A.out.2.1 hcp (by omega)
    rcases Lib.indexB_cases (strOfNums zs) (strOfNums ys) with hix | ⟨i, hix, hroom⟩
    · -- no instance more: 'return n'
      have hix' : Lib.index (Lib.bytesOf zs) (Lib.bytesOf ys) = -1 := hix
      rw [hix'] at hcon
      go_wp2_with (go_at_call 56; refine hcon.mono ?_; rintro e w' ⟨rfl, q', rfl⟩)
      go_ret
      refine ⟨?_, _, rfl⟩
      have e0 := Lib.count_miss hix'
      have := A.out.2.2
      rw [show Lib.count (Lib.bytesOf xs) (Lib.bytesOf ys) = cnt by omega]
      rfl
    · -- an instance at i: 'n++; s = s[i+len(sep):]'
      have hix' : Lib.index (Lib.bytesOf zs) (Lib.bytesOf ys) = i := hix
      rw [strOfNums_size, strOfNums_size, hz, hy] at hroom
      rw [hix'] at hcon
      have c0 : (((i : Nat) : Int) == -1) = false := beq_eq_false_iff_ne.2 (by omega)
      have c3 : (0 : Int) ≤ ↑i + ↑k := by omega
      have c4 : (↑i + ↑k : Int) ≤ ↑ln := by omega
      have e1 := Lib.count_hit hyn hix'
      rw [hyl, ← Lib.bytesOf_drop] at e1
      have B : Aside (cnt + 1 + Lib.count (Lib.bytesOf (zs.drop (i + k))) (Lib.bytesOf ys) = Lib.count (Lib.bytesOf xs) (Lib.bytesOf ys) ∧ (∀ x ∈ zs.drop (i + k), 0 ≤ x ∧ x < 256)) := ⟨by have := A.out.2.2; omega, fun x hx' => A.out.1 x (List.mem_of_mem_drop hx')⟩
      clear e1 hix hix'
      by_cases hce : cap = i + k
      · subst hce
        go_wp2_with (go_at_call 56; refine hcon.mono ?_; rintro e w' ⟨rfl, q', rfl⟩)
        go_roundg (ln - (i + k) + 1)
        case measure => omega
        case rel => exact ⟨a, zs.drop (i + k), ln - (i + k), i + k - (i + k), cnt + 1, _, by first | rfl | simp, by go_num, rfl, by simp [hz], by omega, by omega, Nat.le_refl _, B.out.2, fun j hj => absurd hj (by omega), B.out.1⟩
      · go_wp2_with (go_at_call 56; refine hcon.mono ?_; rintro e w' ⟨rfl, q', rfl⟩)
        go_roundg (ln - (i + k) + 1)
        case measure => omega
        case rel =>
          refine ⟨a.add (i + k), zs.drop (i + k), ln - (i + k), cap - (i + k), cnt + 1, _, by first | rfl | simp [hce], by go_num, rfl, by simp [hz], by omega, by omega, Nat.le_refl _, B.out.2, fun j hj => ?_, B.out.1⟩
          rw [Lib.add_add a (i + k) j (by omega), A.out.2.1 (i + k + j) (by omega)]
          simp [List.getD, List.getElem?_drop]

set_option maxHeartbeats 8000000 in
set_option maxRecDepth 1000000 in
theorem gbgenSplit_core (a1 a2 : Addr) (n c1 k c2 : Nat) (xs : List Int) (sepL : List UInt8) (sv : Nat) (lim : Int) (N : Nat) (w : World)
    (hx : xs.length = n) (hr1 : ∀ x ∈ xs, 0 ≤ x ∧ x < 256) (hc1 : ∀ i, i < n → w.cell? (a1.add i) = some (.int .u8 (xs.getD i 0))) (hcap : n ≤ c1) (hs : n < 4294967281) (h1 : 1 ≤ k) (hk : k ≤ 9223372036854775807) (hsl : sepL.length = k) (hsv : sv ≤ k)
    (hI : ∀ (a : Addr) (zs : List Int) (ln cap q : Nat) (c : Array Value), zs.length = ln → (∀ x ∈ zs, 0 ≤ x ∧ x < 256) → (∀ i, i < ln → w.cell? (a.add i) = some (.int .u8 (zs.getD i 0))) → ln ≤ cap → ln ≤ n →
      Calls Tryd.prog 56 #[.slice (some a) ln cap, .slice (some a2) k c2] ((w.alloc (.cells c 23)).drewN q) fun e w' => e = .returned (.int .i64 (Lib.index (Lib.bytesOf zs) sepL)) ∧ ∃ q', w' = (w.alloc (.cells c 23)).drewN q')
    (hC : Calls Tryd.prog 55 #[.slice (some a1) n c1, .slice (some a2) k c2] w fun e w' => e = .returned (.int .i64 (Lib.count (Lib.bytesOf xs) sepL)) ∧ ∃ q, w' = w.drewN q)
    (hn0 : lim ≠ 0) (hn63 : lim ≤ 9223372036854775807) (hN : (N : Int) = min (if lim < 0 then (Lib.count (Lib.bytesOf xs) sepL : Int) + 1 else lim) ((n : Int) + 1)) :
    Calls Tryd.prog 44 #[.slice (some a1) n c1, .slice (some a2) k c2, .int .i64 sv, .int .i64 lim] w fun e w' =>
      e = .returned (.slice (some ⟨w.heap.size, 0, none⟩) (Lib.splitV sepL sv (N - 1) a1 c1 (Lib.bytesOf xs)).length N) ∧ ∃ q, w' = (w.alloc (.cells (Lib.cellsOfV (Lib.splitV sepL sv (N - 1) a1 c1 (Lib.bytesOf xs)) N) 23)).drewN q := by
  obtain ⟨cn, hcn⟩ : ∃ cn : Nat, Lib.count (Lib.bytesOf xs) sepL = cn := ⟨_, rfl⟩
  rw [hcn] at hC hN
  have hcl : cn ≤ n + 1 := by rw [← hcn, ← hx, ← Lib.bytesOf_length' xs]; exact Lib.count_le _ _
  clear hcn
  have hne : (lim == 0) = false := beq_eq_false_iff_ne.2 hn0
  have k0 : ((k : Int) == 0) = false := beq_eq_false_iff_ne.2 (by omega)
  have eNn : lim < 0 → min ((cn : Int) + 1) ((n : Int) + 1) = (N : Int) := fun h => by rw [hN, if_pos h]
  have eNp : ¬ lim < 0 → min lim ((n : Int) + 1) = (N : Int) := fun h => by rw [hN, if_neg h]
  clear hN
  have HI : Aside (∀ (a : Addr) (zs : List Int) (ln cap q : Nat) (c : Array Value), zs.length = ln → (∀ x ∈ zs, 0 ≤ x ∧ x < 256) → (∀ i, i < ln → w.cell? (a.add i) = some (.int .u8 (zs.getD i 0))) → ln ≤ cap → ln ≤ n →
      Calls Tryd.prog 56 #[.slice (some a) ln cap, .slice (some a2) k c2] ((w.alloc (.cells c 23)).drewN q) fun e w' => e = .returned (.int .i64 (Lib.index (Lib.bytesOf zs) sepL)) ∧ ∃ q', w' = (w.alloc (.cells c 23)).drewN q') := hI
  clear hI
  by_cases hneg : lim < 0
  all_goals
    (first | have eN' := eNn hneg | have eN' := eNp hneg)
    clear eNn eNp
    have hNs : (N : Int) ≤ (n : Int) + 1 := by rw [← eN']; exact Int.min_le_right _ _
    have hN1 : (1 : Int) ≤ (N : Int) := by rw [← eN']; exact Int.le_min.2 ⟨by omega, by omega⟩
    have hmk := run_make_row' (P := Tryd.prog) 38 23 (.slice none 0 0) 24 Tryd.underlying38 bsInfo rfl .i64 .i64 N (by omega) (by omega)
    -- draws are led outward past an allocation and a store: so the walk sees the new block through them
    have ad : ∀ (W : World) (j : Nat) (o : Obj), (W.drewN j).alloc o = (W.alloc o).drewN j := fun _ _ _ => rfl
    have sd : ∀ (W : World) (j : Nat) (x : Addr) (v : Value), (W.drewN j).setCell x v = (W.setCell x v).drewN j := fun _ _ _ _ => rfl
    go_enter Tryd.func44, Tryd.ntmps44
    go_wp2_with (first | (go_at_call 55; refine hC.mono ?_; rintro e w' ⟨rfl, q0, rfl⟩))
    clear hmk hC
    go_loopg [0, 10] (N - 1) (fun g s0 s10 wr => ∃ (done : List Value) (a : Addr) (zs : List Int) (ln cap q : Nat), s0 = .slice (some a) ln cap ∧ s10 = .int .i64 done.length ∧ done.length ≤ N - 1 ∧ g = N - 1 - done.length ∧ zs.length = ln ∧ ln ≤ cap ∧ ln ≤ n ∧ cap ≤ c1 ∧
      wr = (w.alloc (.cells (Lib.cellsOfV done N) 23)).drewN q ∧
      Aside ((∀ x ∈ zs, 0 ≤ x ∧ x < 256) ∧ (∀ i, i < ln → w.cell? (a.add i) = some (.int .u8 (zs.getD i 0))) ∧ done ++ Lib.splitV sepL sv (N - 1 - done.length) a cap (Lib.bytesOf zs) = Lib.splitV sepL sv (N - 1) a1 c1 (Lib.bytesOf xs)))
    case atStart =>
      first
        | exact ⟨[], a1, xs, n, c1, q0, rfl, rfl, Nat.zero_le _, rfl, hx, hcap, Nat.le_refl _, Nat.le_refl _, by rw [Lib.cellsOfV_nil], hr1, hc1, rfl⟩
        | exact ⟨[], a1, xs, n, c1, 0, rfl, rfl, Nat.zero_le _, rfl, hx, hcap, Nat.le_refl _, Nat.le_refl _, by rw [Lib.cellsOfV_nil]; rfl, hr1, hc1, rfl⟩
    case round =>
      obtain ⟨done, a, zs, ln, cap, q, rfl, rfl, hd, rfl, hz, hcp, hln, hcc, rfl, A⟩ := hrel
      have hnext : (Lib.cellsOfV done N)[done.length]? = some (.slice none 0 0) := Lib.cellsOfV_next (by omega)
      have hbl : (Lib.bytesOf zs).length = ln := by rw [Lib.bytesOf_length', hz]
      -- HOW IT ENDS, by whichever way the loop is left: 'a[i] = s; return a[:i+1]'
      have fin : Lib.splitV sepL sv (N - 1 - done.length) a cap (Lib.bytesOf zs) = [.slice (some a) ln cap] → (Lib.splitV sepL sv (N - 1) a1 c1 (Lib.bytesOf xs)).length = done.length + 1 ∧ (Lib.cellsOfV done N).setIfInBounds done.length (.slice (some a) ln cap) = Lib.cellsOfV (Lib.splitV sepL sv (N - 1) a1 c1 (Lib.bytesOf xs)) N := fun h => by
        have e := A.out.2.2
        rw [h] at e
        rw [← e]
        exact ⟨by simp, Lib.cellsOfV_set (by omega) _⟩
      by_cases hlt : done.length < N - 1
      · have hltz : ((done.length : Nat) : Int) < (N : Int) - 1 := by omega
        have hcon := HI.out a zs ln cap q (Lib.cellsOfV done N) hz A.out.1 A.out.2.1 hcp hln
        rcases Lib.indexB_cases (strOfNums zs) ⟨sepL.toArray⟩ with hix | ⟨i, hix, hroom⟩
        · -- no instance more: 'break'
          have hix' : Lib.index (Lib.bytesOf zs) sepL = -1 := hix
          rw [hix'] at hcon
          go_wp2_with (first | (go_at_call 56; refine hcon.mono ?_; rintro e w' ⟨rfl, q', rfl⟩))
          go_ret
          obtain ⟨f1, f2⟩ := fin (by rw [Lib.splitV_miss sepL sv _ a cap _ hix', hbl])
          rw [f1, ← f2]
          exact ⟨by first | rfl | (congr 2 <;> omega), _, rfl⟩
        · -- an instance at i: 'a[i] = s[:m+sepSave:m+sepSave]; s = s[m+len(sep):]; i++'
          have hix' : Lib.index (Lib.bytesOf zs) sepL = i := hix
          have hroom' : i + k ≤ ln := by
            have e1 : (⟨sepL.toArray⟩ : ByteArray).size = k := by simp [ByteArray.size, hsl]
            rw [e1, strOfNums_size, hz] at hroom
            exact hroom
          rw [hix'] at hcon
          have c0 : ¬ ((i : Int) < 0) := by omega
          have c1' : (0 : Int) ≤ ↑i + ↑sv := by omega
          have c2' : (↑i + ↑sv : Int) ≤ ↑cap := by omega
          have c3 : (0 : Int) ≤ ↑i + ↑k := by omega
          have c4 : (↑i + ↑k : Int) ≤ ↑ln := by omega
          have B : Aside ((∀ x ∈ zs.drop (i + k), 0 ≤ x ∧ x < 256) ∧ (done ++ [Value.slice (some a) (i + sv) (i + sv)]) ++ Lib.splitV sepL sv (N - 1 - (done.length + 1)) (Lib.tailAddr a cap (i + k)) (cap - (i + k)) (Lib.bytesOf (zs.drop (i + k))) = Lib.splitV sepL sv (N - 1) a1 c1 (Lib.bytesOf xs)) := ⟨fun x hx' => A.out.1 x (List.mem_of_mem_drop hx'), by
            rw [← A.out.2.2, show N - 1 - done.length = (N - 1 - (done.length + 1)) + 1 by omega, Lib.splitV_hit sepL sv _ a cap _ i hix', hsl, Lib.bytesOf_drop']
            simp⟩
          clear hix hix' hroom fin
          by_cases hce : cap = i + k
          · subst hce
            go_wp2_with (first | (go_at_call 56; refine hcon.mono ?_; rintro e w' ⟨rfl, q', rfl⟩))
            go_roundg (N - 1 - (done.length + 1))
            case measure => omega
            case rel =>
              refine ⟨done ++ [.slice (some a) (i + sv) (i + sv)], a, zs.drop (i + k), ln - (i + k), i + k - (i + k), q', by first | rfl | simp, by simp, by simp; omega, by simp, by simp [hz], by omega, by omega, by omega, by rw [← Lib.cellsOfV_set (by omega)], B.out.1, fun j hj => absurd hj (by omega), ?_⟩
              have := B.out.2
              rw [Lib.tailAddr, if_pos rfl] at this
              simp only [List.length_append, List.length_cons, List.length_nil, Nat.zero_add]
              exact this
          · go_wp2_with (first | (go_at_call 56; refine hcon.mono ?_; rintro e w' ⟨rfl, q', rfl⟩))
            go_roundg (N - 1 - (done.length + 1))
            case measure => omega
            case rel =>
              refine ⟨done ++ [.slice (some a) (i + sv) (i + sv)], a.add (i + k), zs.drop (i + k), ln - (i + k), cap - (i + k), q', by first | rfl | simp [hce], by simp, by simp; omega, by simp, by simp [hz], by omega, by omega, by omega, by rw [← Lib.cellsOfV_set (by omega)], B.out.1, fun j hj => ?_, ?_⟩
              · rw [Lib.add_add' a (i + k) j (by omega), A.out.2.1 (i + k + j) (by omega)]
                simp [List.getD, List.getElem?_drop]
              · have := B.out.2
                rw [Lib.tailAddr, if_neg hce] at this
                simp only [List.length_append, List.length_cons, List.length_nil, Nat.zero_add]
                exact this
      · -- as many pieces as were asked for, but one: the rest is the last
        have hltz : ¬ (((done.length : Nat) : Int) < (N : Int) - 1) := by omega
        go_wp2
        go_ret
        obtain ⟨f1, f2⟩ := fin (by rw [show N - 1 - done.length = 0 by omega]; show [Value.slice (some a) (Lib.bytesOf zs).length cap] = _; rw [hbl])
        rw [f1, ← f2]
        exact ⟨by first | rfl | (congr 2 <;> omega), _, rfl⟩
end Go.Proofs.YtpaieadnicmplaaDoor

/- gobytes.TrimFunc and what it calls (the shelf's walks turned to this program's copies by mkBTr.py). -/
import Derived.Shelf.Spec.BytesTrimFunc
import Derived.Test.YtpaieadnicmplaaDoorL7
import Derived.Test.YtpaieadnicmplaaDoorL9
import Derived.WalkKit
import Derived.Deep.DeepFit
import Derived.Deep.DeepMust
import Derived.BigCall
import Derived.BigGuard
set_option linter.unusedVariables false
set_option linter.unusedSimpArgs false
namespace Go.Proofs.YtpaieadnicmplaaDoor
open Go.Shelf Go.RowKit Go.Lib

def r7b : Go.Shelf.Ren := ⟨fun | 32 => 37 | 49 => 51 | 33 => 71 | 50 => 72 | n => n, fun | 0 => 0 | 3 => 3 | 4 => 4 | 5 => 5 | 21 => 21 | 25 => 52 | 30 => 23 | 33 => 43 | 66 => 58 | 68 => 68 | 69 => 69 | n => n, fun | 2 => 2 | 3 => 3 | n => n⟩
theorem lay7b_33 : Go.Proofs.Lays7.n33 Tryd.prog r7b := {
  mixed := by kernel_rfl
  f32 := Tryd.func37.trans (congrArg some (by kernel_rfl))
  f33 := Tryd.func71.trans (congrArg some (by kernel_rfl))
  f49 := Tryd.func51.trans (congrArg some (by kernel_rfl))
  f50 := Tryd.func72.trans (congrArg some (by kernel_rfl))
  t0 := by kernel_rfl
  a0 := fun w => by kernel_rfl
  z0 := fun w => by kernel_rfl
  v0 := fun w => by kernel_rfl
  i0 := by kernel_rfl
  t3 := by kernel_rfl
  a3 := fun w => by kernel_rfl
  z3 := fun w => by kernel_rfl
  v3 := fun w => by kernel_rfl
  i3 := by kernel_rfl
  t4 := by kernel_rfl
  a4 := fun w => by kernel_rfl
  z4 := fun w => by kernel_rfl
  v4 := fun w => by kernel_rfl
  i4 := by kernel_rfl
  t5 := by kernel_rfl
  a5 := fun w => by kernel_rfl
  z5 := fun w => by kernel_rfl
  v5 := fun w => by kernel_rfl
  i5 := by kernel_rfl
  t21 := by kernel_rfl
  a21 := fun w => by kernel_rfl
  z21 := fun w => by kernel_rfl
  v21 := fun w => by kernel_rfl
  i21 := by kernel_rfl
  t25 := by kernel_rfl
  a25 := fun w => by kernel_rfl
  z25 := fun w => by kernel_rfl
  v25 := fun w => by kernel_rfl
  i25 := by kernel_rfl
  t30 := by kernel_rfl
  a30 := fun w => by kernel_rfl
  z30 := fun w => by kernel_rfl
  v30 := fun w => by kernel_rfl
  i30 := by kernel_rfl
  t33 := by kernel_rfl
  a33 := fun w => by kernel_rfl
  z33 := fun w => by kernel_rfl
  v33 := fun w => by kernel_rfl
  i33 := by kernel_rfl
  t66 := by kernel_rfl
  a66 := fun w => by kernel_rfl
  z66 := fun w => by kernel_rfl
  t68 := by kernel_rfl
  a68 := fun w => by kernel_rfl
  z68 := fun w => by kernel_rfl
  v68 := fun w => by kernel_rfl
  i68 := by kernel_rfl
  t69 := by kernel_rfl
  a69 := fun w => by kernel_rfl
  z69 := fun w => by kernel_rfl
  v69 := fun w => by kernel_rfl
  i69 := by kernel_rfl
  g2 := by kernel_rfl
  g3 := by kernel_rfl }
theorem bDec (s : ByteArray) (b o c : Nat) (w : World) (hT : Tabs w) (hB : BytesAt s b o w) :
    Calls Tryd.prog 37 #[.slice (some ⟨b, o, none⟩) s.size c] w fun e w' => e = .returned (.tuple #[.int .i32 (Lib.decodeGo s).1, .int .i64 (Lib.decodeGo s).2]) ∧ Below w.heap.size w w' :=
  Any7.utf8_DecodeRune lay7_32 s b o c w hT hB
theorem bLast (s : ByteArray) (b o c : Nat) (w : World) (hcap : s.size ≤ c) (hB : BytesAt s b o w) (hs : s.size ≤ 9223372036854775807) (hT : Tabs w) :
    Calls Tryd.prog 71 #[.slice (some ⟨b, o, none⟩) s.size c] w fun e w' => e = .returned (.tuple #[.int .i32 (Lib.decodeLastL s.data.toList).1, .int .i64 (Lib.decodeLastL s.data.toList).2]) ∧ Below w.heap.size w w' :=
  Any7.utf8_DecodeLastRune lay7b_33 s b o c w hcap hB hs hT

set_option maxHeartbeats 2000000 in
set_option maxRecDepth 1000000 in
theorem gbindexFunc (g : Nat) (lb : Array Value) (eg : ∀ args w, (callFunc g args).run Tryd.prog w = .ok (.enter g args) w) (p : Nat → Bool) (truth : Bool) (s : ByteArray) (b off cap : Nat) (w : World)
    (hcap : s.size ≤ cap) (hs : s.size ≤ 9223372036854775807) (hB : BytesAt s b off w) (hT : Tabs w) (hp : PredGrows Tryd.prog g lb p w) :
    Calls Tryd.prog 66 #[.slice (some ⟨b, off, none⟩) s.size cap, .func (.func g) #[] lb, .bool truth] w fun e w' => e = .returned (.int .i64 (Lib.idxFunc p truth s)) ∧ Below w.heap.size w w' := by
  go_enter Tryd.func66, Tryd.ntmps66
  go_wp2
  go_loopg [7] s.size (fun gf s7 wx => ∃ pos : Nat, s7 = .int .i64 pos ∧ pos ≤ s.size ∧ Below w.heap.size w wx ∧ Lib.idxFuncFrom p truth s gf pos = Lib.idxFunc p truth s ∧ s.size ≤ pos + gf)
  case atStart => exact ⟨0, rfl, Nat.zero_le _, Below.refl _ _, rfl, by omega⟩
  case round =>
    obtain ⟨pos, rfl, hpos, hbw, hleft, hfu⟩ := hrel
    by_cases hps : pos < s.size
    · obtain ⟨g', rfl⟩ : ∃ g', gk = g' + 1 := ⟨gk - 1, by omega⟩
      have hpz : (pos : Int) < (s.size : Int) := by omega
      have cD := bDec (s.extract pos s.size) b (off + pos) (cap - pos) wr (Utf8Tabs_below hT hbw) ((hB.below hbw).tail pos)
      have hk2 := Lib.decodeGo_le_size (s.extract pos s.size)
      rw [Lib.tail_size] at cD hk2
      rw [decodeGo_tail s pos hps] at cD hk2
      have hwd := Lib.width_pos s pos
      have hr1 := Lib.rune_le s pos
      obtain ⟨R, hR⟩ : ∃ R, (Utf8.decode s pos).1 = R := ⟨_, rfl⟩
      obtain ⟨K, hK⟩ : ∃ K, (Utf8.decode s pos).2 = K := ⟨_, rfl⟩
      simp only [Lib.idxFuncFrom, hps, if_true, hR, hK] at hleft
      rw [hR, hK] at cD
      rw [hK] at hwd hk2
      rw [hR] at hr1
      clear hB hT
      go_wp2_with (go_at_call 37; go_fit cD; rintro e W ⟨rfl, hb1⟩)
      have hbW : Below w.heap.size w W := hbw.trans (hb1.mono hbw.size)
      have cS : Calls Tryd.prog g (#[.int .i32 (R : Int)] ++ lb) W _ := hp W R hr1 hbW
      clear hp
      cases hsp : p R <;> cases truth <;> rw [hsp] at cS <;> simp only [hsp, if_true, Bool.false_eq_true, Bool.true_eq_false, if_false] at hleft
      · go_wp2_with (go_at_fn g; refine cS.mono ?_; rintro e W' ⟨rfl, hbc⟩)
        go_ret
        exact ⟨by rw [← hleft] <;> rfl, (hbW.trans (hbc.mono hbW.size))⟩
      · go_wp2_with (go_at_fn g; refine cS.mono ?_; rintro e W' ⟨rfl, hbc⟩)
        go_roundg g'
        case measure => omega
        case rel => exact ⟨pos + K, by go_num, by omega, (hbW.trans (hbc.mono hbW.size)), hleft, by omega⟩
      · go_wp2_with (go_at_fn g; refine cS.mono ?_; rintro e W' ⟨rfl, hbc⟩)
        go_roundg g'
        case measure => omega
        case rel => exact ⟨pos + K, by go_num, by omega, (hbW.trans (hbc.mono hbW.size)), hleft, by omega⟩
      · go_wp2_with (go_at_fn g; refine cS.mono ?_; rintro e W' ⟨rfl, hbc⟩)
        go_ret
        exact ⟨by rw [← hleft] <;> rfl, (hbW.trans (hbc.mono hbW.size))⟩
    · have hpz : ¬ ((pos : Int) < (s.size : Int)) := by omega
      rw [Lib.idxFuncFrom_end p truth s gk pos hps] at hleft
      clear hB hT hp
      go_wp2
      go_ret
      exact ⟨by rw [← hleft] <;> rfl, hbw⟩

set_option maxHeartbeats 4000000 in
set_option maxRecDepth 1000000 in
theorem gblastIndexFunc (g : Nat) (lb : Array Value) (eg : ∀ args w, (callFunc g args).run Tryd.prog w = .ok (.enter g args) w) (p : Nat → Bool) (truth : Bool) (s : ByteArray) (b off cap : Nat) (w : World)
    (hcap : s.size ≤ cap) (hs : s.size ≤ 9223372036854775807) (hB : BytesAt s b off w) (hT : Tabs w) (hp : PredGrows Tryd.prog g lb p w) :
    Calls Tryd.prog 65 #[.slice (some ⟨b, off, none⟩) s.size cap, .func (.func g) #[] lb, .bool truth] w fun e w' => e = .returned (.int .i64 (Lib.lastIdxFunc p truth s)) ∧ Below w.heap.size w w' := by
  go_enter Tryd.func65, Tryd.ntmps65
  go_wp2
  go_loopg [7] s.size (fun gf s7 wx => ∃ i : Nat, s7 = .int .i64 i ∧ i ≤ s.size ∧ Below w.heap.size w wx ∧ Lib.lastIdxFuncFrom p truth s gf i = Lib.lastIdxFunc p truth s ∧ i ≤ gf)
  case atStart => exact ⟨s.size, rfl, Nat.le_refl _, Below.refl _ _, rfl, Nat.le_refl _⟩
  case round =>
    obtain ⟨i, rfl, hi, hbw, hright, hfu⟩ := hrel
    by_cases hpi : 0 < i
    · obtain ⟨g', rfl⟩ : ∃ g', gk = g' + 1 := ⟨gk - 1, by omega⟩
      have hpz : (0 : Int) < (i : Int) := by omega
      have hk1 := Lib.decodeLastL_width (s.data.toList.take i) (by rw [List.length_take, ← Lib.size_eq]; omega)
      rw [List.length_take, ← Lib.size_eq, Nat.min_eq_left hi] at hk1
      have hr1 := Lib.decodeLastL_rune (s.data.toList.take i)
      have hcell : wr.cell? ⟨b, off + (i - 1), none⟩ = some (.int .u8 (s.get! (i - 1)).toNat) := (hB.below hbw) (i - 1) (by omega)
      obtain ⟨y, hy⟩ : ∃ y, s.get! (i - 1) = y := ⟨_, rfl⟩
      rw [hy] at hcell
      have hw32 : wrap32 (y.toNat : Int) = (y.toNat : Int) := by unfold wrap32; have := y.toNat_lt; omega
      by_cases ha : y.toNat < 128
      · -- an ASCII byte: no call of the decoder
        have hd := decodeLastL_ascii s i hpi hi (by rw [hy]; exact ha)
        rw [hy] at hd
        obtain ⟨R, hR⟩ : ∃ R, (Lib.decodeLastL (s.data.toList.take i)).1 = R := ⟨_, rfl⟩
        obtain ⟨K, hK⟩ : ∃ K, (Lib.decodeLastL (s.data.toList.take i)).2 = K := ⟨_, rfl⟩
        simp only [Lib.lastIdxFuncFrom, hpi, if_true, hR, hK] at hright
        rw [hK] at hk1
        rw [hR] at hr1
        have hRy : R = y.toNat := by rw [← hR, hd]
        have hK1 : K = 1 := by rw [← hK, hd]
        subst hRy; subst hK1
        have haz : ¬ ((y.toNat : Int) ≥ 128) := by omega
        have hbW : Below w.heap.size w wr := hbw
        have cS : Calls Tryd.prog g (#[.int .i32 (y.toNat : Int)] ++ lb) wr _ := hp wr y.toNat hr1 hbW
        clear hp hB hT
        cases hsp : p y.toNat <;> cases truth <;> rw [hsp] at cS <;> simp only [hsp, if_true, Bool.false_eq_true, Bool.true_eq_false, if_false] at hright
        · go_wp2_with (go_at_fn g; refine cS.mono ?_; rintro e W' ⟨rfl, hbc⟩)
          go_ret
          refine ⟨?_, (hbW.trans (hbc.mono hbW.size))⟩
          rw [← hright]
          show Ending.returned (Value.int .i64 _) = _
          refine congrArg _ (congrArg _ ?_)
          omega
        · go_wp2_with (go_at_fn g; refine cS.mono ?_; rintro e W' ⟨rfl, hbc⟩)
          go_roundg g'
          case measure => omega
          case rel => exact ⟨i - 1, by go_num, by omega, (hbW.trans (hbc.mono hbW.size)), hright, by omega⟩
        · go_wp2_with (go_at_fn g; refine cS.mono ?_; rintro e W' ⟨rfl, hbc⟩)
          go_roundg g'
          case measure => omega
          case rel => exact ⟨i - 1, by go_num, by omega, (hbW.trans (hbc.mono hbW.size)), hright, by omega⟩
        · go_wp2_with (go_at_fn g; refine cS.mono ?_; rintro e W' ⟨rfl, hbc⟩)
          go_ret
          refine ⟨?_, (hbW.trans (hbc.mono hbW.size))⟩
          rw [← hright]
          show Ending.returned (Value.int .i64 _) = _
          refine congrArg _ (congrArg _ ?_)
          omega
      · -- beyond ASCII: utf8.DecodeLastRune(s[0:i])
        have haz : (y.toNat : Int) ≥ 128 := by omega
        have cL := bLast (s.extract 0 i) b off cap wr (by rw [head_size s i hi]; omega) ((hB.below hbw).head i hi) (by rw [head_size s i hi]; omega) (Utf8Tabs_below hT hbw)
        rw [head_data, head_size s i hi] at cL
        obtain ⟨R, hR⟩ : ∃ R, (Lib.decodeLastL (s.data.toList.take i)).1 = R := ⟨_, rfl⟩
        obtain ⟨K, hK⟩ : ∃ K, (Lib.decodeLastL (s.data.toList.take i)).2 = K := ⟨_, rfl⟩
        simp only [Lib.lastIdxFuncFrom, hpi, if_true, hR, hK] at hright
        rw [hR, hK] at cL
        rw [hK] at hk1
        rw [hR] at hr1
        clear hB hT
        go_wp2_with (go_at_call 71; go_fit cL; rintro e W ⟨rfl, hb1⟩)
        have hbW : Below w.heap.size w W := hbw.trans (hb1.mono hbw.size)
        have cS : Calls Tryd.prog g (#[.int .i32 (R : Int)] ++ lb) W _ := hp W R hr1 hbW
        clear hp
        cases hsp : p R <;> cases truth <;> rw [hsp] at cS <;> simp only [hsp, if_true, Bool.false_eq_true, Bool.true_eq_false, if_false] at hright
        · go_wp2_with (go_at_fn g; refine cS.mono ?_; rintro e W' ⟨rfl, hbc⟩)
          go_ret
          refine ⟨?_, (hbW.trans (hbc.mono hbW.size))⟩
          rw [← hright]
          show Ending.returned (Value.int .i64 _) = _
          refine congrArg _ (congrArg _ ?_)
          omega
        · go_wp2_with (go_at_fn g; refine cS.mono ?_; rintro e W' ⟨rfl, hbc⟩)
          go_roundg g'
          case measure => omega
          case rel => exact ⟨i - K, by go_num, by omega, (hbW.trans (hbc.mono hbW.size)), hright, by omega⟩
        · go_wp2_with (go_at_fn g; refine cS.mono ?_; rintro e W' ⟨rfl, hbc⟩)
          go_roundg g'
          case measure => omega
          case rel => exact ⟨i - K, by go_num, by omega, (hbW.trans (hbc.mono hbW.size)), hright, by omega⟩
        · go_wp2_with (go_at_fn g; refine cS.mono ?_; rintro e W' ⟨rfl, hbc⟩)
          go_ret
          refine ⟨?_, (hbW.trans (hbc.mono hbW.size))⟩
          rw [← hright]
          show Ending.returned (Value.int .i64 _) = _
          refine congrArg _ (congrArg _ ?_)
          omega
    · obtain rfl : i = 0 := by omega
      rw [Lib.lastIdxFuncFrom_zero] at hright
      clear hB hT hp
      go_wp2
      go_ret
      exact ⟨by rw [← hright] <;> rfl, hbw⟩

set_option maxHeartbeats 1000000 in
set_option maxRecDepth 1000000 in
theorem gbTrimLeftFunc (g : Nat) (lb : Array Value) (eg : ∀ args w, (callFunc g args).run Tryd.prog w = .ok (.enter g args) w) (p : Nat → Bool) (s : ByteArray) (b off cap : Nat) (w : World)
    (hcap : s.size ≤ cap) (hs : s.size ≤ 9223372036854775807) (hB : BytesAt s b off w) (hT : Tabs w) (hp : PredGrows Tryd.prog g lb p w) :
    Calls Tryd.prog 58 #[.slice (some ⟨b, off, none⟩) s.size cap, .func (.func g) #[] lb] w fun e w' => e = .returned (leftCut p s b off cap) ∧ Below w.heap.size w w' := by
  have cI := gbindexFunc g lb eg p false s b off cap w hcap hs hB hT hp
  have hrg := Lib.idxFuncFrom_range p false s s.size 0
  unfold leftCut
  change Lib.idxFunc p false s = -1 ∨ _ at hrg
  obtain ⟨I, hI⟩ : ∃ I, Lib.idxFunc p false s = I := ⟨_, rfl⟩
  rw [show Lib.idxFuncFrom p false s s.size 0 = I from hI] at hrg
  rw [hI] at cI hrg ⊢
  clear hB hT hp
  rcases hrg with rfl | ⟨h0, h1⟩
  · go_enter Tryd.func58, Tryd.ntmps58
    go_wp2_with (go_at_call 66; go_fit cI; rintro e w' ⟨rfl, hb⟩)
    go_ret
    exact ⟨rfl, hb⟩
  · have hne : ¬ I = -1 := by omega
    rw [if_neg hne]
    obtain ⟨i, rfl⟩ := Int.eq_ofNat_of_zero_le (show 0 ≤ I by omega)
    simp only [Int.toNat_natCast]
    go_enter Tryd.func58, Tryd.ntmps58
    go_wp2_with (go_at_call 66; go_fit cI; rintro e w' ⟨rfl, hb⟩)
    all_goals (go_ret; exact ⟨rfl, hb⟩)

set_option maxHeartbeats 2000000 in
set_option maxRecDepth 1000000 in
theorem gbTrimRightFunc (g : Nat) (lb : Array Value) (eg : ∀ args w, (callFunc g args).run Tryd.prog w = .ok (.enter g args) w) (p : Nat → Bool) (s : ByteArray) (b off cap : Nat) (w : World)
    (hcap : s.size ≤ cap) (hs : s.size ≤ 9223372036854775807) (hB : BytesAt s b off w) (hT : Tabs w) (hp : PredGrows Tryd.prog g lb p w) :
    Calls Tryd.prog 57 #[.slice (some ⟨b, off, none⟩) s.size cap, .func (.func g) #[] lb] w fun e w' => e = .returned (rightCut p s b off cap) ∧ Below w.heap.size w w' := by
  have cI := gblastIndexFunc g lb eg p false s b off cap w hcap hs hB hT hp
  have hrg := lastIdx_lt p false s s.size s.size (Nat.le_refl _)
  unfold rightCut Lib.rightEndF
  obtain ⟨I, hI⟩ : ∃ I, Lib.lastIdxFunc p false s = I := ⟨_, rfl⟩
  rw [show Lib.lastIdxFuncFrom p false s s.size s.size = I from hI] at hrg
  rw [hI] at cI ⊢
  clear hp
  rcases hrg with rfl | ⟨h0, h1⟩
  · -- p holds of every rune: 'i++': s[0:0]
    rw [if_neg (by omega)]
    clear hB hT
    go_enter Tryd.func57, Tryd.ntmps57
    go_wp2_with (go_at_call 65; go_fit cI; rintro e w' ⟨rfl, hb⟩)
    all_goals (go_ret; exact ⟨rfl, hb⟩)
  · rw [if_pos h0]
    obtain ⟨i, rfl⟩ := Int.eq_ofNat_of_zero_le h0
    simp only [Int.toNat_natCast]
    have hil : i < s.size := by omega
    have hw1 := Lib.decodeGo_le_size (s.extract i s.size)
    rw [Lib.tail_size] at hw1
    change (Lib.decodeGoB (s.extract i s.size)).2 ≤ _ at hw1
    have hdt : Lib.decodeGoB (s.extract i s.size) = Utf8.decode s i := decodeGo_tail s i hil
    obtain ⟨y, hy⟩ : ∃ y, s.get! i = y := ⟨_, rfl⟩
    have hcw : ∀ W, Below w.heap.size w W → W.cell? ⟨b, off + i, none⟩ = some (.int .u8 y.toNat) := fun W hb => by rw [← hy]; exact (hB.below hb) i hil
    by_cases ha : y.toNat < 128
    · have haz : ¬ ((y.toNat : Int) ≥ 128) := by omega
      have hK : (Lib.decodeGoB (s.extract i s.size)).2 = 1 := by
        rw [hdt, Lib.decode_at, hy]
        simp [decodeN, ha]
      rw [hK]
      clear hB hT
      go_enter Tryd.func57, Tryd.ntmps57
      go_wp2_with (go_at_call 65; go_fit cI; rintro e W ⟨rfl, hb⟩; have hcell := hcw W hb)
      all_goals (go_ret; refine ⟨?_, hb⟩)
      all_goals first | rfl | (show Ending.returned (Value.slice _ ((i : Int) + 1).toNat _) = _; rw [show ((i : Int) + 1).toNat = i + 1 by omega])
    · have haz : (y.toNat : Int) ≥ 128 := by omega
      have cDW : ∀ W, Below w.heap.size w W → Calls Tryd.prog 37 #[.slice (some ⟨b, off + i, none⟩) (s.size - i) (cap - i)] W fun e w' => e = .returned (.tuple #[.int .i32 (Lib.decodeGoB (s.extract i s.size)).1, .int .i64 (Lib.decodeGoB (s.extract i s.size)).2]) ∧ Below W.heap.size W w' := fun W hb => by
        have cD := bDec (s.extract i s.size) b (off + i) (cap - i) W (Utf8Tabs_below hT hb) ((hB.below hb).tail i)
        rw [Lib.tail_size] at cD
        exact cD
      obtain ⟨K, hK⟩ : ∃ K, (Lib.decodeGoB (s.extract i s.size)).2 = K := ⟨_, rfl⟩
      rw [hK] at hw1 ⊢
      simp only [hK] at cDW
      clear hB hT
      go_enter Tryd.func57, Tryd.ntmps57
      go_wp2_with (first
        | (go_at_call 65; go_fit cI; rintro e W ⟨rfl, hb⟩; have hcell := hcw W hb)
        | (go_at_call 37; go_fit (cDW _ hb); rintro e W' ⟨rfl, hb2⟩))
      all_goals (go_ret; refine ⟨?_, hb.trans (hb2.mono hb.size)⟩)
      all_goals first | rfl | (show Ending.returned (Value.slice _ ((i : Int) + (K : Int)).toNat _) = _; rw [show ((i : Int) + (K : Int)).toNat = i + K by omega])

/-! ### The nil arms -/

set_option maxHeartbeats 1000000 in
set_option maxRecDepth 1000000 in
theorem gbindexFunc_nil (fv : Value) (truth : Bool) (w : World) :
    Calls Tryd.prog 66 #[.slice none 0 0, fv, .bool truth] w fun e w' => e = .returned (.int .i64 (-1)) ∧ w' = w := by
  go_enter Tryd.func66, Tryd.ntmps66
  go_wp2
  go_loop [7] (fun n => n = .int .i64 0) (fun _ => 0)
  case atStart => rfl
  case round =>
    subst hrel
    go_wp2
    go_ret
    exact ⟨rfl, rfl⟩

set_option maxHeartbeats 1000000 in
set_option maxRecDepth 1000000 in
theorem gblastIndexFunc_nil (fv : Value) (truth : Bool) (w : World) :
    Calls Tryd.prog 65 #[.slice none 0 0, fv, .bool truth] w fun e w' => e = .returned (.int .i64 (-1)) ∧ w' = w := by
  go_enter Tryd.func65, Tryd.ntmps65
  go_wp2
  go_loop [7] (fun n => n = .int .i64 0) (fun _ => 0)
  case atStart => rfl
  case round =>
    subst hrel
    go_wp2
    go_ret
    exact ⟨rfl, rfl⟩

set_option maxHeartbeats 1000000 in
set_option maxRecDepth 1000000 in
theorem gbTrimLeftFunc_nil (fv : Value) (w : World) :
    Calls Tryd.prog 58 #[.slice none 0 0, fv] w fun e w' => e = .returned (.slice none 0 0) ∧ w' = w := by
  have cI := gbindexFunc_nil fv false w
  go_enter Tryd.func58, Tryd.ntmps58
  go_wp2_with (go_at_call 66; refine cI.mono ?_; rintro e w' ⟨rfl, rfl⟩)
  go_ret
  exact ⟨rfl, rfl⟩

set_option maxHeartbeats 1000000 in
set_option maxRecDepth 1000000 in
theorem gbTrimRightFunc_nil (fv : Value) (w : World) :
    Calls Tryd.prog 57 #[.slice none 0 0, fv] w fun e w' => e = .returned (.slice none 0 0) ∧ w' = w := by
  have cI := gblastIndexFunc_nil fv false w
  go_enter Tryd.func57, Tryd.ntmps57
  go_wp2_with (go_at_call 65; refine cI.mono ?_; rintro e w' ⟨rfl, rfl⟩)
  all_goals (go_ret; exact ⟨rfl, rfl⟩)

/-! ### bytes.TrimFunc -/

set_option maxHeartbeats 1000000 in
set_option maxRecDepth 1000000 in
theorem gbTrimFunc (g : Nat) (lb : Array Value) (eg : ∀ args w, (callFunc g args).run Tryd.prog w = .ok (.enter g args) w) (p : Nat → Bool) (s : ByteArray) (b off cap : Nat) (w : World)
    (hcap : s.size ≤ cap) (hs : s.size ≤ 9223372036854775807) (hB : BytesAt s b off w) (hT : Tabs w) (hp : PredGrows Tryd.prog g lb p w) :
    Calls Tryd.prog 46 #[.slice (some ⟨b, off, none⟩) s.size cap, .func (.func g) #[] lb] w fun e w' => e = .returned (trimCut p s b off cap) ∧ Below w.heap.size w w' := by
  have cL := gbTrimLeftFunc g lb eg p s b off cap w hcap hs hB hT hp
  have hrg := Lib.idxFuncFrom_range p false s s.size 0
  change Lib.idxFunc p false s = -1 ∨ _ at hrg
  unfold trimCut
  unfold leftCut at cL
  obtain ⟨I, hI⟩ : ∃ I, Lib.idxFunc p false s = I := ⟨_, rfl⟩
  rw [show Lib.idxFuncFrom p false s s.size 0 = I from hI] at hrg
  rw [hI] at cL hrg ⊢
  rcases hrg with rfl | ⟨h0, h1⟩
  · simp only [if_true] at cL ⊢
    have cR := fun W => gbTrimRightFunc_nil (.func (.func g) #[] lb) W
    clear hB hT hp
    go_enter Tryd.func46, Tryd.ntmps46
    go_wp2_with (first
      | (go_at_call 58; go_fit cL; rintro e W ⟨rfl, hb⟩)
      | (go_at_call 57; refine (cR _).mono ?_; rintro e W' ⟨rfl, rfl⟩))
    go_ret
    exact ⟨rfl, hb⟩
  · have hne : ¬ I = -1 := by omega
    rw [if_neg hne] at cL ⊢
    obtain ⟨i, rfl⟩ := Int.eq_ofNat_of_zero_le (show 0 ≤ I by omega)
    simp only [Int.toNat_natCast] at cL ⊢
    have cR : ∀ W, Below w.heap.size w W → Calls Tryd.prog 57 #[.slice (some ⟨b, off + i, none⟩) (s.size - i) (cap - i), .func (.func g) #[] lb] W fun e w' => e = .returned (rightCut p (s.extract i s.size) b (off + i) (cap - i)) ∧ Below W.heap.size W w' := fun W hb => by
      have := gbTrimRightFunc g lb eg p (s.extract i s.size) b (off + i) (cap - i) W (by rw [Lib.tail_size]; omega) (by rw [Lib.tail_size]; omega) ((hB.below hb).tail i) (Utf8Tabs_below hT hb) (hp.later hb)
      rwa [Lib.tail_size] at this
    clear hB hT hp
    go_enter Tryd.func46, Tryd.ntmps46
    go_wp2_with (first
      | (go_at_call 58; go_fit cL; rintro e W ⟨rfl, hb⟩)
      | (go_at_call 57; go_fit (cR _ hb); rintro e W' ⟨rfl, hb2⟩))
    go_ret
    exact ⟨rfl, hb.trans (hb2.mono hb.size)⟩

end Go.Proofs.YtpaieadnicmplaaDoor

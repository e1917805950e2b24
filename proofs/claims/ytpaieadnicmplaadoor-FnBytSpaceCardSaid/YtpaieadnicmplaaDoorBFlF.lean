/- gobytes.FieldsFunc at unicode.IsSpace. -/
import Derived.Test.YtpaieadnicmplaaDoorBTrT
import Derived.Test.YtpaieadnicmplaaDoorBGen
import Derived.Shelf.Strings.FieldsAny
import Derived.Deep.DeepFit
import Derived.Deep.DeepMust
set_option linter.unusedVariables false
namespace Go.Proofs.YtpaieadnicmplaaDoor
open Go.Shelf Go.RowKit Go.Lib

theorem spanInfo : (Tryd.prog.info? 66).map (fun i => (i.zero, i.size, i.bytes)) = some (some (.agg #[.int .i64 0, .int .i64 0]), 2, 16) := by kernel_rfl
theorem bssInfo : (Tryd.prog.info? 23).map (fun i => (i.zero, i.size, i.bytes)) = some (some (.slice none 0 0), 1, 24) := by kernel_rfl
theorem ownsRow_belF {B : Nat} {e : TypeId} {k : Nat} {v : Value} {n : Nat} {xs : List Value} {w w' : World} (h : w.ownsRow B e k v n xs) (hb : Below w.heap.size w w') : w'.ownsRow B e k v n xs :=
  h.kept (row := none) ⟨hb.os, hb.tape, hb.output, hb.size, fun k hk _ => hb.block k hk⟩ (Classical.em _)
/-- The slice of block b that a span says. -/
def pcV (b : Nat) (x : Nat × Nat) : Value := .slice (some ⟨b, x.1, none⟩) (x.2 - x.1) (x.2 - x.1)
/-- The row of pieces, filled up to i. -/
def rowV (b : Nat) (SP : List (Nat × Nat)) (i : Nat) : List Value := ((SP.take i).map (pcV b)) ++ List.replicate (SP.length - i) (Value.slice none 0 0)
theorem rowV_zero (b : Nat) (SP : List (Nat × Nat)) : rowV b SP 0 = List.replicate SP.length (Value.slice none 0 0) := by simp [rowV]
theorem rowV_all (b : Nat) (SP : List (Nat × Nat)) : rowV b SP SP.length = SP.map (pcV b) := by simp [rowV]
theorem rowV_set (b : Nat) (SP : List (Nat × Nat)) (i : Nat) (x : Nat × Nat) (h : SP[i]? = some x) : (rowV b SP i).set i (pcV b x) = rowV b SP (i + 1) := by
  have hi : i < SP.length := (List.getElem?_eq_some_iff.1 h).1
  have ht : SP.take (i + 1) = SP.take i ++ [x] := by rw [List.take_add_one, h]; rfl
  have hr : List.replicate (SP.length - i) (Value.slice none 0 0) = Value.slice none 0 0 :: List.replicate (SP.length - (i + 1)) (Value.slice none 0 0) := by
    rw [show SP.length - i = SP.length - (i + 1) + 1 by omega, List.replicate_succ]
  have hl : ((SP.take i).map (pcV b)).length = i := by rw [List.length_map, List.length_take]; omega
  unfold rowV
  rw [hr, ht, List.map_append, List.set_append_right _ _ (by omega), hl, Nat.sub_self, List.set_cons_zero]
  simp
/-- The pieces read. -/
theorem pcV_bss {W : World} {b A : Nat} {s : ByteArray} {SP : List (Nat × Nat)} (hb : b < W.heap.size) (hB : Lib.Bytes W b 0 s) (hok : ∀ x ∈ SP, x.1 < x.2 ∧ x.2 ≤ s.size) (base : Nat) (e : TypeId)
    (hown : W.ownsRow base e 1 (.slice (some ⟨A, 0, none⟩) SP.length SP.length) SP.length (SP.map (pcV b))) : BssAt W (.slice (some ⟨A, 0, none⟩) SP.length SP.length) (SP.map fun x => s.extract x.1 x.2) := by
  refine ⟨some ⟨A, 0, none⟩, SP.length, by rw [List.length_map], by rw [List.length_map]; exact Nat.le_refl _, fun _ => ⟨A, 0, rfl, (hown.lt A rfl).2, fun j y hj => ?_⟩⟩
  rw [List.getElem?_map] at hj
  cases hx : SP[j]? with
  | none => rw [hx] at hj; cases hj
  | some x =>
    rw [hx] at hj
    have hy : s.extract x.1 x.2 = y := Option.some.inj hj
    obtain ⟨h1, h2⟩ := hok x (List.mem_of_getElem? hx)
    have hsz : (s.extract x.1 x.2).size = x.2 - x.1 := size_sub s x.1 x.2 (by omega) h2
    have hjl : j < SP.length := (List.getElem?_eq_some_iff.1 hx).1
    refine ⟨b, x.1, x.2 - x.1, ?_, hb, ?_⟩
    · have := (hown.cellAt j (by omega)).trans (show (SP.map (pcV b))[j]? = some (pcV b x) by rw [List.getElem?_map, hx]; rfl)
      rw [Nat.zero_add, this, ← hy, hsz]; rfl
    · rw [← hy]; exact bytes_sub hB x.1 x.2 (by omega) h2

set_option maxHeartbeats 4000000 in
set_option maxRecDepth 1000000 in
theorem gbFieldsFunc (s : ByteArray) (b c : Nat) (w : World) (hB : Lib.Bytes w b 0 s) (hb : b < w.heap.size) (hc : s.size ≤ c) (hs : s.size ≤ 2147483648) (hT : Tabs w) (hW : White w) :
    Calls Tryd.prog 49 #[.slice (some ⟨b, 0, none⟩) s.size c, .func (.func 47) #[] #[]] w (BssR (Lib.goFieldsP isSpaceR s) w) := by
  have HBy := hidS hB
  have HT := hidS hT
  have HPr : Hid (PredGrows Tryd.prog 47 #[] isSpaceR w) := hidS (PredAtRunes.grows (space_pays w hW))
  have hGF : Lib.goFieldsP isSpaceR s = (Lib.spansOfP isSpaceR s).map fun x => s.extract x.1 x.2 := rfl
  rw [hGF]
  obtain ⟨i0, hi, hz0, hz1, hz2⟩ := info_parts spanInfo
  obtain ⟨W0, hmk, hown0, hg0⟩ := run_make_own (P := Tryd.prog) w w.heap.size 64 66 i0 _ 2 Tryd.underlying64 hi hz0 hz1 .i64 .i64 32 (by rw [hz2]; decide) (by unfold maxLen; decide) (Nat.le_refl _)
  rw [show ((32 : Nat) : Int) = 32 from rfl] at hmk
  have hb0 : Below w.heap.size w W0 := (Below.refl _ w).grown hg0 (Nat.le_refl _) (fun k hk => by cases hk)
  have u154 := run_underlying Tryd.underlying66
  have u152 := run_underlying Tryd.underlying64
  clear hB hT hW
  go_enter Tryd.func49, Tryd.ntmps49
  go_wp2
  go_loopg [5, 6, 7] s.size (fun gf s5 s6 s7 wx => ∃ (pos : Nat) (st : Option Nat) (acc : List (Nat × Nat)) (z : Int), s6 = .int .i64 z ∧ s7 = .int .i64 pos ∧ (st = none → z < 0) ∧ (∀ a, st = some a → z = (a : Int)) ∧ -9223372036854775808 ≤ z ∧
      wx.ownsRow w.heap.size 66 2 s5 acc.length (Lib.spanCells acc) ∧ Below w.heap.size w wx ∧
      Lib.spansFromP isSpaceR s gf pos st acc = Lib.spansFromP isSpaceR s s.size 0 none [] ∧ s.size ≤ pos + gf ∧ pos ≤ s.size ∧ acc.length ≤ pos ∧ (∀ a, st = some a → a < pos) ∧ (∀ x ∈ acc, x.1 < x.2 ∧ x.2 ≤ s.size) ∧ s5 ≠ .slice none 0 0)
  case atStart =>
    exact ⟨0, none, [], -1, rfl, rfl, fun _ => by omega, (fun a h => by cases h), by omega, hown0, hb0, rfl, by omega, Nat.zero_le _, Nat.le_refl _, (fun a h => by cases h), (fun x hx => by cases hx), (fun h => by cases h)⟩
  case round =>
    obtain ⟨pos, st, acc, z, rfl, rfl, hzn, hzs, hzl, hown, hbw, hsp, hfu, hps, hal, hst, hok, hnn⟩ := hrel
    by_cases hlt : pos < s.size
    · obtain ⟨g', rfl⟩ : ∃ g', gk = g' + 1 := ⟨gk - 1, by omega⟩
      have hlz : (pos : Int) < (s.size : Int) := by omega
      have hca : ¬ c = pos := by omega
      have hwd := Lib.width_pos s pos
      have hwn : pos + (Utf8.decode s pos).2 ≤ s.size := by
        have := Lib.decodeN_le_n' (s.size - pos) (s.get! pos).toNat (s.get! (pos + 1)).toNat (s.get! (pos + 2)).toNat (s.get! (pos + 3)).toNat (by omega)
        rw [← Lib.decode_at] at this
        omega
      have hxs : (s.extract pos s.size).size = s.size - pos := size_sub s pos s.size hps (Nat.le_refl _)
      have hcD := dDecB (s.extract pos s.size) b pos (c - pos) wr (HT.out.below hbw) (bytes_sub (bytes_below HBy.out hbw hb) pos s.size hps (Nat.le_refl _))
      rw [decode_suffix s pos hlt, hxs] at hcD
      have hr1 := Lib.rune_le s pos
      obtain ⟨R, hR⟩ : ∃ R, (Utf8.decode s pos).1 = R := ⟨_, rfl⟩
      obtain ⟨K, hK⟩ : ∃ K, (Utf8.decode s pos).2 = K := ⟨_, rfl⟩
      simp only [Lib.spansFromP, hlt, if_true, hR, hK] at hsp
      rw [hR, hK] at hcD
      rw [hR] at hr1
      rw [hK] at hwd hwn
      have CD := hidS hcD
      clear hcD hxs hR hK
      go_wp2_with fail
      refine CD.out.mono ?_
      rintro e W ⟨rfl, hb1⟩
      have hbw2 : Below w.heap.size w W := hbw.trans (hb1.mono hbw.size)
      have hown2 := ownsRow_belF hown hb1
      have cS : Calls Tryd.prog 47 (#[.int .i32 (R : Int)] ++ #[]) W _ := HPr.out W R hr1 hbw2
      clear hown hbw hb1 CD
      cases hpr : isSpaceR R <;> rw [hpr] at cS <;> simp only [hpr, if_true, Bool.false_eq_true, if_false] at hsp
      · cases st with
        | none =>
          have hz0' : z < 0 := hzn rfl
          go_wp2_with (go_at_call 47; refine cS.mono ?_; rintro e W' ⟨rfl, hbc⟩)
          go_roundg g'
          case measure => omega
          case rel => exact ⟨pos + K, some pos, acc, pos, rfl, by go_num, (fun h => by cases h), fun a h => by cases h; rfl, by omega, ownsRow_belF hown2 hbc, hbw2.trans (hbc.mono hbw2.size), hsp, by omega, hwn, by omega, fun a h => by cases h; omega, hok, hnn⟩
        | some a =>
          have hza : z = (a : Int) := hzs a rfl
          subst hza
          go_wp2_with (go_at_call 47; refine cS.mono ?_; rintro e W' ⟨rfl, hbc⟩)
          go_roundg g'
          case measure => omega
          case rel => exact ⟨pos + K, some a, acc, a, rfl, by go_num, (fun h => by cases h), fun b h => by cases h; rfl, by omega, ownsRow_belF hown2 hbc, hbw2.trans (hbc.mono hbw2.size), hsp, by omega, hwn, by omega, fun b h => by cases h; have := hst a rfl; omega, hok, hnn⟩
      · cases st with
        | none =>
          have hz0' : z < 0 := hzn rfl
          go_wp2_with (go_at_call 47; refine cS.mono ?_; rintro e W' ⟨rfl, hbc⟩)
          go_roundg g'
          case measure => omega
          case rel => exact ⟨pos + K, none, acc, z, rfl, by go_num, fun _ => hz0', (fun a h => by cases h), hzl, ownsRow_belF hown2 hbc, hbw2.trans (hbc.mono hbw2.size), hsp, by omega, hwn, by omega, (fun a h => by cases h), hok, hnn⟩
        | some a =>
          have hza : z = (a : Int) := hzs a rfl
          subst hza
          go_wp2_with (first
            | (go_at_call 47; refine cS.mono ?_; rintro e W' ⟨rfl, hbc⟩)
            | (at_builtin; go_must (refine wpList_append_own _ rfl (.tmp 30) (.tmp 34) 64 rfl w.heap.size 66 i0 (.agg #[.int .i64 0, .int .i64 0]) 2 16 Tryd.underlying64 hi hz0 hz1 hz2 rfl (by decide) _ _ _ rfl ((ownsRow_belF hown2 hbc).alloc _) ⟨W'.heap.size, 0, none⟩ 1 1 [.int .i64 (a : Int), .int .i64 (pos : Int)] rfl rfl (cell_two_new' _ _ _ _) (by intro u hu; simp at hu; rcases hu with rfl | rfl <;> rfl) (by unfold maxLen; omega) (by omega) (by have := hbw2.size; have := hbc.size; simp; omega) ?_; intro v3 w3 hown3 hgrow3 hnil3)))
          go_roundg g'
          case measure => omega
          case rel =>
            have hap := hst a rfl
            have hX := (ownsRow_belF hown2 hbc).alloc (.cells #[.int .i64 (a : Int), .int .i64 (pos : Int)] 66)
            have hbW' := hbw2.trans (hbc.mono hbw2.size)
            refine ⟨pos + K, none, acc ++ [(a, pos)], -1, rfl, by go_num, fun _ => by omega, (fun b h => by cases h), by omega, by rw [List.length_append, Lib.spanCells_snoc]; exact hown3, ?_, hsp, by omega, hwn, by simp; omega, (fun b h => by cases h), ?_, fun h => by have := (hnil3.1 h).2; omega⟩
            · exact (hbW'.alloc hbW'.size _).grown hgrow3 (by have := hbW'.size; simp; omega) (fun j hj => (hX.lt j hj).1)
            · intro x hx
              rcases List.mem_append.1 hx with h | h
              · exact hok x h
              · simp at h; subst h; have := hst a rfl; exact ⟨by simp; omega, by simp; omega⟩
    · obtain rfl : pos = s.size := by omega
      have hlz : ¬ ((s.size : Int) < (s.size : Int)) := by omega
      rw [Lib.spansFromP_end isSpaceR s gk _ _ _ hlt] at hsp
      have hSP : Lib.spansOfP isSpaceR s = Lib.closeSpans s (acc, st) := by unfold Lib.spansOfP; rw [← hsp]
      have hokS : ∀ x ∈ Lib.spansOfP isSpaceR s, x.1 < x.2 ∧ x.2 ≤ s.size := by
        rw [hSP]
        cases st with
        | none => exact hok
        | some a =>
          intro x hx
          rcases List.mem_append.1 hx with h | h
          · exact hok x h
          · simp at h; subst h; have := hst a rfl; exact ⟨by simp; omega, by simp⟩
      have hlenS : (Lib.spansOfP isSpaceR s).length ≤ s.size + 1 := by
        rw [hSP]
        cases st with
        | none => show acc.length ≤ _; omega
        | some a => show (acc ++ [(a, s.size)]).length ≤ _; simp; omega
      clear HPr
      go_upto_if 43 with fail
      go_cut [5] (fun s5 wx => wx.ownsRow w.heap.size 66 2 s5 (Lib.spansOfP isSpaceR s).length (Lib.spanCells (Lib.spansOfP isSpaceR s)) ∧ Below w.heap.size w wx ∧ s5 ≠ .slice none 0 0)
      case first =>
        cases st with
        | none =>
          have hz0' : z < 0 := hzn rfl
          go_wp2_with fail
          go_meet
          exact ⟨by rw [hSP]; exact hown, hbw, hnn⟩
        | some a =>
          have hza : z = (a : Int) := hzs a rfl
          subst hza
          go_wp2_with (at_builtin; go_must (refine wpList_append_own _ rfl (.tmp 44) (.tmp 49) 64 rfl w.heap.size 66 i0 (.agg #[.int .i64 0, .int .i64 0]) 2 16 Tryd.underlying64 hi hz0 hz1 hz2 rfl (by decide) _ _ _ rfl (hown.alloc _) ⟨wr.heap.size, 0, none⟩ 1 1 [.int .i64 (a : Int), .int .i64 (s.size : Int)] rfl rfl (cell_two_new' _ _ _ _) (by intro u hu; simp at hu; rcases hu with rfl | rfl <;> rfl) (by unfold maxLen; omega) (by omega) (by have := hbw.size; simp; omega) ?_; intro v3 w3 hown3 hgrow3 hnil3))
          go_wp2_with fail
          go_meet
          have hX := hown.alloc (.cells #[.int .i64 (a : Int), .int .i64 (s.size : Int)] 66)
          exact ⟨by rw [hSP]; show w3.ownsRow _ _ _ _ (acc ++ [(a, s.size)]).length (Lib.spanCells (acc ++ [(a, s.size)])); rw [List.length_append, Lib.spanCells_snoc]; exact hown3,
            (hbw.alloc hbw.size _).grown hgrow3 (by have := hbw.size; simp; omega) (fun j hj => (hX.lt j hj).1), fun h => by have := (hnil3.1 h).2; omega⟩
      case rest =>
        obtain ⟨hownS, hbS, hnnS⟩ := hcut
        obtain ⟨SP, hSPe⟩ : ∃ SP, Lib.spansOfP isSpaceR s = SP := ⟨_, rfl⟩
        rw [hSPe] at hownS hokS hlenS
        clear hSP hsp hown hbw hok hnn
        obtain ⟨g5, cap5, rfl⟩ : ∃ g5 cap5, u5 = .slice (some ⟨g5, 0, none⟩) SP.length cap5 := by
          rcases hownS.2 with ⟨h, _⟩ | ⟨g5, cap5, _, h, _⟩
          · exact absurd h hnnS
          · exact ⟨g5, cap5, h⟩
        have hg5 : g5 < wc.heap.size := (hownS.lt g5 rfl).2
        obtain ⟨i9, hi9', hz90, hz91, hz92⟩ := info_parts bssInfo
        obtain ⟨W5, hmk5, hown5, hgr5⟩ := run_make_full (P := Tryd.prog) wc w.heap.size 38 23 i9 _ 1 Tryd.underlying38 hi9' hz90 hz91 .i64 .i64 SP.length (by rw [hz92]; omega) (by unfold maxLen; omega) hbS.size
        have hS5 := hownS.kept hgr5 (Classical.em _)
        have hb5 : Below w.heap.size w W5 := hbS.grown hgr5 hbS.size (fun k hk => by cases hk)
        rw [show (Value.slice none 0 0).cells = #[Value.slice none 0 0] from rfl, Nat.mul_one, toList_madeCells_one, ← rowV_zero b SP] at hown5
        go_wp2
        go_loopg [56] SP.length (fun gf s56 wx => ∃ i : Nat, i + gf = SP.length ∧ s56 = .int .i64 i ∧ wx.ownsRow w.heap.size 23 1 (.slice (some ⟨wc.heap.size, 0, none⟩) SP.length SP.length) SP.length (rowV b SP i) ∧
          wx.ownsRow w.heap.size 66 2 (.slice (some ⟨g5, 0, none⟩) SP.length cap5) SP.length (Lib.spanCells SP) ∧ Below w.heap.size w wx)
        case atStart => exact ⟨0, by omega, rfl, hown5, hS5, hb5⟩
        case round =>
          obtain ⟨i, hig, rfl, hA, hS, hbr⟩ := hrel
          cases gk with
          | zero =>
            have hin : ¬ ((i : Int) < (SP.length : Int)) := by omega
            obtain rfl : i = SP.length := by omega
            go_wp2
            go_ret
            rw [rowV_all] at hA
            subst hSPe
            exact ⟨_, rfl, pcV_bss (Nat.lt_of_lt_of_le hb hbr.size) (bytes_below HBy.out hbr hb) hokS w.heap.size _ hA, hbr⟩
          | succ gf =>
            have hin : (i : Int) < (SP.length : Int) := by omega
            obtain ⟨x, hx⟩ : ∃ x, SP[i]? = some x := ⟨_, List.getElem?_eq_getElem (by omega)⟩
            have hxo := hokS x (List.mem_of_getElem? hx)
            have hc0 : wr.cell? ⟨g5, i * 2, none⟩ = some (.int .i64 x.1) := (hS.cellAt (i * 2) (by omega)).trans (Lib.spanCells_at SP i x hx).1
            have hc1 : wr.cell? ⟨g5, i * 2 + 1, none⟩ = some (.int .i64 x.2) := (hS.cellAt (i * 2 + 1) (by omega)).trans (Lib.spanCells_at SP i x hx).2
            have hA' := hA.alloc (.cells #[.int .i64 (x.1 : Int), .int .i64 (x.2 : Int)] 66)
            have hS' := hS.alloc (.cells #[.int .i64 (x.1 : Int), .int .i64 (x.2 : Int)] 66)
            obtain ⟨old, hold⟩ : ∃ old, (rowV b SP i)[i]? = some old := ⟨_, List.getElem?_eq_getElem (by have := hA.1; omega)⟩
            have hcA := (hA'.cellAt i (by omega)).trans hold
            have hfA := hA'.frozenAt i
            have hne : ¬ x.2 = x.1 := by omega
            have hd1 : (x.1 : Int) ≤ (x.2 : Int) := by omega
            have hd2 : (x.2 : Int) ≤ (c : Int) := by omega
            go_wp2
            go_roundg gf
            case measure => omega
            case rel =>
              have hst' := hA'.stored i (pcV b x)
              rw [rowV_set b SP i x hx] at hst'
              refine ⟨i + 1, by omega, by go_num, ?_, ?_, ?_⟩
              · exact hst'.1
              · exact hS'.kept hst'.2 (by simp [Value.ownBlock]; omega)
              · exact (hbr.alloc hbr.size _).grown hst'.2 (by have := hbr.size; simp; omega) (fun k hk => by cases hk; exact hbS.size)
end Go.Proofs.YtpaieadnicmplaaDoor

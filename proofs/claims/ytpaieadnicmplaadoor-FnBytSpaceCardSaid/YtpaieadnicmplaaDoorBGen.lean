/- gobytes.genSplit at any number and separator; the two doors (mkBGen.py). -/
import Derived.Test.YtpaieadnicmplaaDoorBSpN
import Derived.Test.YtpaieadnicmplaaDoorBExpl
import Derived.Test.YtpaieadnicmplaaDoorPcsN
import Derived.Lib.SlBytesRow
set_option linter.unusedVariables false
namespace Go.Proofs.YtpaieadnicmplaaDoor
open Go.RowKit Go.Lib

theorem take_getB {α : Type} {l : List α} {k : Nat} {a : α} (h : l[k]? = some a) : l.take (k + 1) = l.take k ++ [a] := by rw [List.take_add_one, h]; rfl
/-- A slice value that reads as pieces of bytes. -/
def BssR (xs : List ByteArray) (w : World) (e : Ending) (w' : World) : Prop := ∃ v, e = .returned v ∧ BssAt w' v xs ∧ Below w.heap.size w w'
/-- A slice value that reads as texts. -/
def StrsR (xs : List ByteArray) (w : World) (e : Ending) (w' : World) : Prop := ∃ v, e = .returned v ∧ StrsAt w' v xs ∧ Below w.heap.size w w'
theorem BssAt.shape {w : World} {v : Value} {xs : List ByteArray} (h : BssAt w v xs) : ∃ A c, v = .slice A xs.length c := by
  obtain ⟨A, c, e, _⟩ := h
  exact ⟨A, c, e⟩

set_option maxHeartbeats 1000000 in
theorem gbGen_n (s sep : ByteArray) (sv : Nat) (n : Int) (g c1 g2 c2 : Nat) (w : World) (hB : Lib.Bytes w g 0 s) (hB2 : Lib.Bytes w g2 0 sep) (hg : g < w.heap.size) (hg2 : g2 < w.heap.size) (hcap : s.size ≤ c1) (hs : s.size < 2147483648) (hp : sep.size < 2147483648) (hsv : sv ≤ sep.size) (hlo : -9223372036854775808 ≤ n) (hhi : n ≤ 9223372036854775807) (hT : Tabs w) :
    Calls Tryd.prog 44 #[.slice (some ⟨g, 0, none⟩) s.size c1, .slice (some ⟨g2, 0, none⟩) sep.size c2, .int .i64 sv, .int .i64 n] w (BssR (nP s sep sv n) w) := by
  unfold nP
  by_cases h0 : n = 0
  · subst h0
    rw [if_pos rfl]
    clear hT hB hB2
    go_enter Tryd.func44, Tryd.ntmps44
    go_wp2
    go_ret
    exact ⟨_, rfl, BssAt.nil _, Below.refl _ _⟩
  · rw [if_neg h0]
    unfold allP
    by_cases hz : sep.size = 0
    · rw [if_pos hz]
      have HE := Lib.hid (gbExplode s n g c1 w hB hg hcap hs h0 hlo hhi hT)
      rw [hz]
      have hn0 : (n == 0) = false := beq_eq_false_iff_ne.2 h0
      clear hT hB hB2
      go_enter Tryd.func44, Tryd.ntmps44
      go_wp2_with (go_at_call 54; refine HE.out.mono ?_; rintro e w1 ⟨v, rfl, hv, hB1⟩; have HV := Lib.hid hv; have HB1 := Lib.hid hB1; clear hv hB1)
      go_ret
      exact ⟨_, rfl, HV.out, HB1.out⟩
    · rw [if_neg hz]
      exact gbGen_at s sep sv n g c1 g2 c2 w hB hB2 hg hg2 hcap (by omega) (by omega) (by omega) hsv h0 hhi

set_option maxHeartbeats 1000000 in
theorem gbSplitN (s sep : ByteArray) (n : Int) (g c1 g2 c2 : Nat) (w : World) (hB : Lib.Bytes w g 0 s) (hB2 : Lib.Bytes w g2 0 sep) (hg : g < w.heap.size) (hg2 : g2 < w.heap.size) (hcap : s.size ≤ c1) (hs : s.size < 2147483648) (hp : sep.size < 2147483648) (hlo : -9223372036854775808 ≤ n) (hhi : n ≤ 9223372036854775807) (hT : Tabs w) :
    Calls Tryd.prog 26 #[.slice (some ⟨g, 0, none⟩) s.size c1, .slice (some ⟨g2, 0, none⟩) sep.size c2, .int .i64 n] w (BssR (nP s sep 0 n) w) := by
  have HG := Lib.hid (gbGen_n s sep 0 n g c1 g2 c2 w hB hB2 hg hg2 hcap hs hp (Nat.zero_le _) hlo hhi hT)
  clear hT hB hB2
  go_enter Tryd.func26, Tryd.ntmps26
  go_wp2_with (go_at_call 44; refine HG.out.mono ?_; rintro e w1 ⟨v, rfl, hv, hB1⟩; have HV := Lib.hid hv; have HB1 := Lib.hid hB1; clear hv hB1)
  go_ret
  exact ⟨_, rfl, HV.out, HB1.out⟩
set_option maxRecDepth 100000 in
set_option maxHeartbeats 2000000 in
theorem bytSplitN (s sep : ByteArray) (n : Int) (g c1 g2 c2 : Nat) (w : World) (hB : Lib.Bytes w g 0 s) (hB2 : Lib.Bytes w g2 0 sep) (hg : g < w.heap.size) (hg2 : g2 < w.heap.size) (hs : s.size < 2147483648) (hp : sep.size < 2147483648) (hlo : -9223372036854775808 ≤ n) (hhi : n ≤ 9223372036854775807) (hT : Tabs w) :
    Calls Tryd.prog 11 #[.slice (some ⟨g, 0, none⟩) s.size c1, .slice (some ⟨g2, 0, none⟩) sep.size c2, .int .i64 n] w (StrsR (nP s sep 0 n) w) := by
  obtain ⟨i0, hi, hz0, hz1, hz2⟩ := info_parts str_info
  have hsm := nP_small s sep 0 n hs
  have HG := Lib.hid (fun a b c d W => gbSplitN s sep n a b c d W)
  have HT := Lib.hid hT
  have HC1 := Lib.hid (CloneB s g 0 c1 w (by omega) (Lib.hid hB))
  have HC2 := Lib.hid (fun (W : World) (hb : Below w.heap.size w W) => CloneB sep g2 0 c2 W (by omega) (Lib.hid (bytes_below hB2 hb hg2)))
  generalize hxs : nP s sep 0 n = xs at hsm HG ⊢
  have HS := Lib.hid hs
  have HP := Lib.hid hp
  clear hT hB hB2 hxs
  go_enter Tryd.func11, Tryd.ntmps11
  go_wp2_with fail
  refine HC1.out.mono ?_
  rintro e w1 ⟨b1, k1, rfl, hb1, hlt1, hk1, hBy1, hB1⟩
  have HBy1 := Lib.hid hBy1
  have HB1 := Lib.hid hB1
  clear hBy1 hB1
  go_wp2_with fail
  refine (HC2.out w1 HB1.out).mono ?_
  rintro e w2 ⟨b2, k2, rfl, hb2, hlt2, hk2, hBy2, hB2⟩
  have HBa := Lib.hid (bytes_below HBy1.out hB2 hlt1)
  have HBb := Lib.hid hBy2
  have HB2 := bl3 HB1 hB2
  have hlt1' : b1 < w2.heap.size := Nat.lt_of_lt_of_le hlt1 hB2.size
  clear hBy2 hB2 HBy1
  go_wp2_with fail
  refine (HG.out b1 k1 b2 k2 w2 HBa.out HBb.out hlt1' hlt2 hk1 HS.out HP.out hlo hhi (HT.out.below HB2.out)).mono ?_
  rintro e w3 ⟨v, rfl, hv, hB3⟩
  obtain ⟨A, c, rfl, hc, hcells⟩ := hv
  have HC := Lib.hid hcells
  have HB := bl3 HB2 hB3
  generalize hl : xs.length = m at hsm hc
  have HL := Lib.hid hl
  clear hcells hB3 hl HBa HBb HG HC1 HC2 hb1 hb2 hlt1 hlt2 hk1 hk2 hlt1'
  go_wp2_with fail
  go_loopw [7, 17] (fun ov iv W => ∃ (k : Nat) (dn : List ByteArray), k ≤ m ∧ iv = .int .i64 k ∧ Hid (dn = xs.take k) ∧ dn.length ≤ k ∧ Hid (W.ownsRow w3.heap.size 9 1 ov dn.length (dn.map Value.string)) ∧ Hid (Below w3.heap.size w3 W))
    (fun _ iv _ => m - (RowKit.intOf iv).toNat)
  case atStart => exact ⟨0, [], Nat.zero_le _, rfl, Lib.hid rfl, Nat.le_refl _, Lib.hid (World.ownsRow_nil _ _ _ _), Lib.hid (Below.refl _ _)⟩
  case round =>
    obtain ⟨k, dn, hk, rfl, HD, hdk, HO, HB1⟩ := hrel
    by_cases hlt : k < m
    · obtain ⟨y, hx⟩ : ∃ y, xs[k]? = some y := ⟨_, List.getElem?_eq_getElem (by have := HL.out; omega)⟩
      obtain ⟨G, o, rfl, hG, hcell⟩ := HC.out (by intro h; rw [h] at hx; cases hx)
      obtain ⟨g', f, cp, hcl, hg', hBy⟩ := hcell k y hx
      have c0 : wr.cell? ⟨G, o + k, none⟩ = some (.slice (some ⟨g', f, none⟩) y.size cp) := (HB1.out.cell (p := ⟨G, o + k, none⟩) hG).trans hcl
      have HX := Lib.hid hx
      have HCV := Lib.hid (Lib.run_convert_whole wr 23 5 9 Tryd.underlying23 Tryd.underlying5 Tryd.underlying9 g' f y (bytes_below hBy HB1.out hg') cp)
      have hltz : (k : Int) < (m : Int) := by omega
      have hq := HCV.out
      clear hx hcell hcl hBy
      go_wp2_with (at_builtin; refine wpList_append_own _ rfl _ _ 28 rfl w3.heap.size 9 i0 (.string ByteArray.empty) 1 16 Tryd.underlying28 hi hz0 hz1 hz2 rfl (by decide) _ _ _ rfl (HO.out.alloc _) ⟨wr.heap.size, 0, none⟩ 1 1 [.string y] rfl rfl (cell_one_new _ _ _) (by simp [Value.oneCell']) (by unfold maxLen; omega) (by omega) (by have := HB1.out.size; simp; omega) ?_; intro v' w4 hown' hgrow _; have HB3 : Hid (Below w3.heap.size w3 w4) := Lib.hid ((HB1.out.alloc HB1.out.size _).grown hgrow (by have := HB1.out.size; simp; omega) (fun j ej => (HO.out.lt j ej).1)); have HR1 := Lib.hid hown'; clear hown' hgrow)
      go_roundw
      case rel => exact ⟨k + 1, dn ++ [y], by omega, by go_num, Lib.hid (by rw [take_getB HX.out, HD.out]), by rw [List.length_append]; simp; omega, Lib.hid (by simpa using HR1.out), HB3⟩
      case measure => simp [RowKit.intOf]; omega
    · have hltz : ¬ ((k : Int) < (m : Int)) := by omega
      have HE : Hid (dn = xs) := Lib.hid (by rw [HD.out, List.take_of_length_le (by have := HL.out; omega)])
      go_wp2
      go_ret
      exact ⟨_, rfl, HE.out ▸ StrsAt.of_own HO.out, HB.out.trans (HB1.out.mono HB.out.size)⟩

set_option maxHeartbeats 1000000 in
theorem gbSplitAfterN (s sep : ByteArray) (n : Int) (g c1 g2 c2 : Nat) (w : World) (hB : Lib.Bytes w g 0 s) (hB2 : Lib.Bytes w g2 0 sep) (hg : g < w.heap.size) (hg2 : g2 < w.heap.size) (hcap : s.size ≤ c1) (hs : s.size < 2147483648) (hp : sep.size < 2147483648) (hlo : -9223372036854775808 ≤ n) (hhi : n ≤ 9223372036854775807) (hT : Tabs w) :
    Calls Tryd.prog 28 #[.slice (some ⟨g, 0, none⟩) s.size c1, .slice (some ⟨g2, 0, none⟩) sep.size c2, .int .i64 n] w (BssR (nP s sep sep.size n) w) := by
  have HG := Lib.hid (gbGen_n s sep sep.size n g c1 g2 c2 w hB hB2 hg hg2 hcap hs hp (Nat.le_refl _) hlo hhi hT)
  clear hT hB hB2
  go_enter Tryd.func28, Tryd.ntmps28
  go_wp2_with (go_at_call 44; refine HG.out.mono ?_; rintro e w1 ⟨v, rfl, hv, hB1⟩; have HV := Lib.hid hv; have HB1 := Lib.hid hB1; clear hv hB1)
  go_ret
  exact ⟨_, rfl, HV.out, HB1.out⟩
set_option maxRecDepth 100000 in
set_option maxHeartbeats 2000000 in
theorem bytSplitAfterN (s sep : ByteArray) (n : Int) (g c1 g2 c2 : Nat) (w : World) (hB : Lib.Bytes w g 0 s) (hB2 : Lib.Bytes w g2 0 sep) (hg : g < w.heap.size) (hg2 : g2 < w.heap.size) (hs : s.size < 2147483648) (hp : sep.size < 2147483648) (hlo : -9223372036854775808 ≤ n) (hhi : n ≤ 9223372036854775807) (hT : Tabs w) :
    Calls Tryd.prog 13 #[.slice (some ⟨g, 0, none⟩) s.size c1, .slice (some ⟨g2, 0, none⟩) sep.size c2, .int .i64 n] w (StrsR (nP s sep sep.size n) w) := by
  obtain ⟨i0, hi, hz0, hz1, hz2⟩ := info_parts str_info
  have hsm := nP_small s sep sep.size n hs
  have HG := Lib.hid (fun a b c d W => gbSplitAfterN s sep n a b c d W)
  have HT := Lib.hid hT
  have HC1 := Lib.hid (CloneB s g 0 c1 w (by omega) (Lib.hid hB))
  have HC2 := Lib.hid (fun (W : World) (hb : Below w.heap.size w W) => CloneB sep g2 0 c2 W (by omega) (Lib.hid (bytes_below hB2 hb hg2)))
  generalize hxs : nP s sep sep.size n = xs at hsm HG ⊢
  have HS := Lib.hid hs
  have HP := Lib.hid hp
  clear hT hB hB2 hxs
  go_enter Tryd.func13, Tryd.ntmps13
  go_wp2_with fail
  refine HC1.out.mono ?_
  rintro e w1 ⟨b1, k1, rfl, hb1, hlt1, hk1, hBy1, hB1⟩
  have HBy1 := Lib.hid hBy1
  have HB1 := Lib.hid hB1
  clear hBy1 hB1
  go_wp2_with fail
  refine (HC2.out w1 HB1.out).mono ?_
  rintro e w2 ⟨b2, k2, rfl, hb2, hlt2, hk2, hBy2, hB2⟩
  have HBa := Lib.hid (bytes_below HBy1.out hB2 hlt1)
  have HBb := Lib.hid hBy2
  have HB2 := bl3 HB1 hB2
  have hlt1' : b1 < w2.heap.size := Nat.lt_of_lt_of_le hlt1 hB2.size
  clear hBy2 hB2 HBy1
  go_wp2_with fail
  refine (HG.out b1 k1 b2 k2 w2 HBa.out HBb.out hlt1' hlt2 hk1 HS.out HP.out hlo hhi (HT.out.below HB2.out)).mono ?_
  rintro e w3 ⟨v, rfl, hv, hB3⟩
  obtain ⟨A, c, rfl, hc, hcells⟩ := hv
  have HC := Lib.hid hcells
  have HB := bl3 HB2 hB3
  generalize hl : xs.length = m at hsm hc
  have HL := Lib.hid hl
  clear hcells hB3 hl HBa HBb HG HC1 HC2 hb1 hb2 hlt1 hlt2 hk1 hk2 hlt1'
  go_wp2_with fail
  go_loopw [7, 17] (fun ov iv W => ∃ (k : Nat) (dn : List ByteArray), k ≤ m ∧ iv = .int .i64 k ∧ Hid (dn = xs.take k) ∧ dn.length ≤ k ∧ Hid (W.ownsRow w3.heap.size 9 1 ov dn.length (dn.map Value.string)) ∧ Hid (Below w3.heap.size w3 W))
    (fun _ iv _ => m - (RowKit.intOf iv).toNat)
  case atStart => exact ⟨0, [], Nat.zero_le _, rfl, Lib.hid rfl, Nat.le_refl _, Lib.hid (World.ownsRow_nil _ _ _ _), Lib.hid (Below.refl _ _)⟩
  case round =>
    obtain ⟨k, dn, hk, rfl, HD, hdk, HO, HB1⟩ := hrel
    by_cases hlt : k < m
    · obtain ⟨y, hx⟩ : ∃ y, xs[k]? = some y := ⟨_, List.getElem?_eq_getElem (by have := HL.out; omega)⟩
      obtain ⟨G, o, rfl, hG, hcell⟩ := HC.out (by intro h; rw [h] at hx; cases hx)
      obtain ⟨g', f, cp, hcl, hg', hBy⟩ := hcell k y hx
      have c0 : wr.cell? ⟨G, o + k, none⟩ = some (.slice (some ⟨g', f, none⟩) y.size cp) := (HB1.out.cell (p := ⟨G, o + k, none⟩) hG).trans hcl
      have HX := Lib.hid hx
      have HCV := Lib.hid (Lib.run_convert_whole wr 23 5 9 Tryd.underlying23 Tryd.underlying5 Tryd.underlying9 g' f y (bytes_below hBy HB1.out hg') cp)
      have hltz : (k : Int) < (m : Int) := by omega
      have hq := HCV.out
      clear hx hcell hcl hBy
      go_wp2_with (at_builtin; refine wpList_append_own _ rfl _ _ 28 rfl w3.heap.size 9 i0 (.string ByteArray.empty) 1 16 Tryd.underlying28 hi hz0 hz1 hz2 rfl (by decide) _ _ _ rfl (HO.out.alloc _) ⟨wr.heap.size, 0, none⟩ 1 1 [.string y] rfl rfl (cell_one_new _ _ _) (by simp [Value.oneCell']) (by unfold maxLen; omega) (by omega) (by have := HB1.out.size; simp; omega) ?_; intro v' w4 hown' hgrow _; have HB3 : Hid (Below w3.heap.size w3 w4) := Lib.hid ((HB1.out.alloc HB1.out.size _).grown hgrow (by have := HB1.out.size; simp; omega) (fun j ej => (HO.out.lt j ej).1)); have HR1 := Lib.hid hown'; clear hown' hgrow)
      go_roundw
      case rel => exact ⟨k + 1, dn ++ [y], by omega, by go_num, Lib.hid (by rw [take_getB HX.out, HD.out]), by rw [List.length_append]; simp; omega, Lib.hid (by simpa using HR1.out), HB3⟩
      case measure => simp [RowKit.intOf]; omega
    · have hltz : ¬ ((k : Int) < (m : Int)) := by omega
      have HE : Hid (dn = xs) := Lib.hid (by rw [HD.out, List.take_of_length_le (by have := HL.out; omega)])
      go_wp2
      go_ret
      exact ⟨_, rfl, HE.out ▸ StrsAt.of_own HO.out, HB.out.trans (HB1.out.mono HB.out.size)⟩
end Go.Proofs.YtpaieadnicmplaaDoor

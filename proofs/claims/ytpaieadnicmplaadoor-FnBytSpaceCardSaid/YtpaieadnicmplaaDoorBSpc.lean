/- gobytes.Fields at every text; impl.BytFields, impl.BytTrimSpace. -/
import Derived.Test.YtpaieadnicmplaaDoorBFl
import Derived.Test.YtpaieadnicmplaaDoorBTrT
set_option linter.unusedVariables false
namespace Go.Proofs.YtpaieadnicmplaaDoor
open Go.Shelf Go.RowKit Go.Lib

/-- What the tables of white space hold. -/
def Spaces (w : World) : Prop := White w ∧ AscB w
theorem Spaces.below {w w' : World} (h : Spaces w) (hb : Below w.heap.size w w') : Spaces w' := ⟨h.1.below hb, h.2.below hb⟩
theorem fields_pieces (s : ByteArray) (SP : List (Nat × Nat)) (ha : ∀ x ∈ s.data.toList, x.toNat < 128) (hp : SP.map (pcL s) = Lib.fields s.data.toList) : Lib.goFieldsP isSpaceR s = SP.map fun x => s.extract x.1 x.2 := by
  have h1 := Lib.goFields_values s
  rw [Lib.fieldsD_ascii _ ha, ← hp, List.map_map] at h1
  have h2 : SP.map ((fun x : List UInt8 => Value.string ⟨x.toArray⟩) ∘ pcL s) = (SP.map fun x => s.extract x.1 x.2).map Value.string := by
    rw [List.map_map]
    apply List.map_congr_left
    intro x _
    show Value.string _ = Value.string _
    congr 1
  rw [h2] at h1
  exact (List.map_inj_right (fun a b h => Value.string.inj h)).1 h1
theorem gbFields (s : ByteArray) (b c : Nat) (w : World) (hB : Lib.Bytes w b 0 s) (hb : b < w.heap.size) (hcap : s.size ≤ c) (hs : s.size < 2147483648) (hS : Spaces w) (hU : Tabs w) :
    Calls Tryd.prog 34 #[.slice (some ⟨b, 0, none⟩) s.size c] w (BssR (Lib.goFieldsP isSpaceR s) w) := by
  by_cases ha : ∀ x ∈ s.data.toList, x.toNat < 128
  · refine (gbFields_core s b c w hB hb hcap (by omega) (fun j x hx => ha x (List.mem_of_getElem? hx)) hS.2).mono ?_
    rintro e w' ⟨SP, rfl, rfl, hp, hok⟩
    have hbel : Below w.heap.size w (w.alloc (.cells (SP.map (pcV b)).toArray 23)) := (Below.refl _ w).alloc (Nat.le_refl _) _
    have hN : SP.length ≤ s.size := by
      have := congrArg List.length hp
      rw [List.length_map, Lib.fields_length] at this
      rw [this, Lib.size_eq]; exact Lib.cntF_le' _ _
    have ho := World.ownsRow_lit (base := w.heap.size) (e := 23) (size := 1) w (SP.map (pcV b)).toArray SP.length (Nat.le_refl _) (by unfold maxLen; omega) (by simp)
    rw [fields_pieces s SP ha hp]
    exact ⟨_, rfl, pcV_bss (Nat.lt_of_lt_of_le hb hbel.size) (bytes_below hB hbel hb) hok w.heap.size _ (by simpa using ho), hbel⟩
  · have hhigh : ∃ (j : Nat) (x : UInt8), s.data.toList[j]? = some x ∧ 128 ≤ x.toNat := by
      have : ∃ x ∈ s.data.toList, ¬ x.toNat < 128 := by
        apply Classical.byContradiction
        intro hn
        exact ha fun x hx => Classical.byContradiction fun h => hn ⟨x, hx, h⟩
      obtain ⟨x, hx, h8⟩ := this
      obtain ⟨j, hj⟩ := List.getElem?_of_mem hx
      exact ⟨j, x, hj, by omega⟩
    exact gbFields_beyond s b c w hB hb hcap (by omega) hhigh hS.2 hU hS.1
theorem goF_len (s : ByteArray) : (goFieldsP isSpaceR s).length ≤ s.size := by
  rw [goFields_count]
  have h2 : ∀ f cur (l : List UInt8), (fieldsGoD f cur l).length ≤ l.length + (if cur = [] then 0 else 1) := by
    intro f
    induction f with
    | zero => intro cur l; unfold fieldsGoD; split <;> simp_all
    | succ f ih =>
      intro cur l
      unfold fieldsGoD
      by_cases hl : l = []
      · rw [if_pos hl]; split <;> simp_all
      · rw [if_neg hl]
        have hw : 1 ≤ (decodeL l).2 := width_pos _ _
        have hll : 1 ≤ l.length := by cases l <;> simp_all
        split
        · rw [List.length_append]
          have := ih [] (l.drop (decodeL l).2)
          rw [if_pos rfl, List.length_drop] at this
          split <;> simp <;> omega
        · have := ih (cur ++ l.take (decodeL l).2) (l.drop (decodeL l).2)
          rw [List.length_drop] at this
          split at this <;> split <;> omega
  have := h2 (s.data.toList.length + 1) [] s.data.toList
  rw [if_pos rfl, ← Lib.size_eq] at this
  exact this

set_option maxRecDepth 100000 in
set_option maxHeartbeats 2000000 in
theorem bytFields (s : ByteArray) (g c1 : Nat) (w : World) (hB : Lib.Bytes w g 0 s) (hs : s.size < 2147483648) (hS : Spaces w) (hU : Tabs w) :
    Calls Tryd.prog 19 #[.slice (some ⟨g, 0, none⟩) s.size c1] w (StrsR (Lib.goFieldsP isSpaceR s) w) := by
  obtain ⟨i0, hi, hz0, hz1, hz2⟩ := info_parts str_info
  have hsm := goF_len s
  have HG := Lib.hid (fun a b W => gbFields s a b W)
  have HT := Lib.hid hS
  have HU := Lib.hid hU
  have HC1 := Lib.hid (CloneB s g 0 c1 w (by omega) (Lib.hid hB))
  generalize hxs : Lib.goFieldsP isSpaceR s = xs at hsm HG ⊢
  have HS := Lib.hid hs
  clear hS hU hB hxs
  go_enter Tryd.func19, Tryd.ntmps19
  go_wp2_with fail
  refine HC1.out.mono ?_
  rintro e w1 ⟨b1, k1, rfl, hb1, hlt1, hk1, hBy1, hB1⟩
  have HBy1 := Lib.hid hBy1
  have HB2 := Lib.hid hB1
  clear hBy1 hB1
  go_wp2_with fail
  refine (HG.out b1 k1 w1 HBy1.out hlt1 hk1 HS.out (HT.out.below HB2.out) (HU.out.below HB2.out)).mono ?_
  rintro e w3 ⟨v, rfl, hv, hB3⟩
  obtain ⟨A, c, rfl, hc, hcells⟩ := hv
  have HC := Lib.hid hcells
  have HB := bl3 HB2 hB3
  generalize hl : xs.length = m at hsm hc
  have HL := Lib.hid hl
  clear hcells hB3 hl HBy1 HG HC1 hb1 hlt1 hk1
  go_wp2_with fail
  go_loopw [3, 10] (fun ov iv W => ∃ (k : Nat) (dn : List ByteArray), k ≤ m ∧ iv = .int .i64 k ∧ Hid (dn = xs.take k) ∧ dn.length ≤ k ∧ Hid (W.ownsRow w3.heap.size 9 1 ov dn.length (dn.map Value.string)) ∧ Hid (Below w3.heap.size w3 W))
    (fun _ iv _ => m - (RowKit.intOf iv).toNat)
  case atStart => exact ⟨0, [], Nat.zero_le _, rfl, Lib.hid rfl, Nat.le_refl _, Lib.hid (World.ownsRow_nil _ _ _ _), Lib.hid (Below.refl _ _)⟩
  case round =>
    obtain ⟨k, dn, hk, rfl, HD, hdk, HO, HB1⟩ := hrel
    by_cases hlt : k < m
    · obtain ⟨y, hx⟩ : ∃ y, xs[k]? = some y := ⟨_, List.getElem?_eq_getElem (by have := HL.out; omega)⟩
      obtain ⟨G, o, rfl, hG, hcell⟩ := HC.out (by intro h; rw [h] at hx; cases hx)
      obtain ⟨g', f, cp, hcl, hg', hBy⟩ := hcell k y hx
      have c0 : wr.cell? ⟨G, o + k, none⟩ = some (.slice (some ⟨g', f, none⟩) y.size cp) := (HB1.out.cell (p := ⟨G, o + k, none⟩) hG).trans hcl
      have HX := Lib.hid hx
      have HCV := Lib.hid (Lib.run_convert_whole wr 23 5 9 Tryd.underlying23 Tryd.underlying5 Tryd.underlying9 g' f y (bytes_below hBy HB1.out hg') cp)
      have hltz : (k : Int) < (m : Int) := by omega
      have hq := HCV.out
      clear hx hcell hcl hBy
      go_wp2_with (at_builtin; refine wpList_append_own _ rfl _ _ 28 rfl w3.heap.size 9 i0 (.string ByteArray.empty) 1 16 Tryd.underlying28 hi hz0 hz1 hz2 rfl (by decide) _ _ _ rfl (HO.out.alloc _) ⟨wr.heap.size, 0, none⟩ 1 1 [.string y] rfl rfl (cell_one_new _ _ _) (by simp [Value.oneCell']) (by unfold maxLen; omega) (by omega) (by have := HB1.out.size; simp; omega) ?_; intro v' w4 hown' hgrow _; have HB3 : Hid (Below w3.heap.size w3 w4) := Lib.hid ((HB1.out.alloc HB1.out.size _).grown hgrow (by have := HB1.out.size; simp; omega) (fun j ej => (HO.out.lt j ej).1)); have HR1 := Lib.hid hown'; clear hown' hgrow)
      go_roundw
      case rel => exact ⟨k + 1, dn ++ [y], by omega, by go_num, Lib.hid (by rw [take_getB HX.out, HD.out]), by rw [List.length_append]; simp; omega, Lib.hid (by simpa using HR1.out), HB3⟩
      case measure => simp [RowKit.intOf]; omega
    · have hltz : ¬ ((k : Int) < (m : Int)) := by omega
      have HE : Hid (dn = xs) := Lib.hid (by rw [HD.out, List.take_of_length_le (by have := HL.out; omega)])
      go_wp2
      go_ret
      exact ⟨_, rfl, HE.out ▸ StrsAt.of_own HO.out, HB.out.trans (HB1.out.mono HB.out.size)⟩
end Go.Proofs.YtpaieadnicmplaaDoor

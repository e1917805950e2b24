/- Small functions over lists of texts: zzFits1, rpEven, Olds, Solid. -/
import Derived.Test.YtnigbgablginnaaStrs
import Derived.Test.YtnigbgablginnaaRp
import Derived.Test.YtnigbgablginnaaEmp
import Derived.Test.YtnigbgablginnaaFinW
import Derived.Maps.AppendAt
import Derived.RangeFuncBox
set_option linter.unusedVariables false
namespace Go.Proofs.Ytnigbgablginnaa
open Go.RowKit Go.Lib

/-- The cells of a list of texts, place by place. -/
theorem StrsAt.cells {w : World} {A : Option Addr} {c n : Nat} {xs : List ByteArray} (h : StrsAt w (.slice A n c) xs) : n = xs.length ∧ xs.length ≤ c ∧ ∀ i u, xs[i]? = some u → ∃ G o, A = some ⟨G, o, none⟩ ∧ G < w.heap.size ∧ w.cell? ⟨G, o + i, none⟩ = some (.string u) := by
  obtain ⟨A', c', e, hc, hx⟩ := h
  cases e
  refine ⟨rfl, hc, fun i u hu => ?_⟩
  have hne : xs ≠ [] := fun e => by rw [e] at hu; simp at hu
  obtain ⟨G, o, e, hg, hcell⟩ := hx hne
  exact ⟨G, o, e, hg, hcell i u hu⟩
theorem StrsAt.shape {w : World} {v : Value} {xs : List ByteArray} (h : StrsAt w v xs) : ∃ A c, v = .slice A xs.length c := by
  obtain ⟨A, c, e, _⟩ := h
  exact ⟨A, c, e⟩

def fitsB (xs : List ByteArray) : Bool := decide (xs.length ≤ 2147483647) && xs.all fun x => decide (x.size ≤ 2147483647)
theorem fitsB_iff {xs : List ByteArray} : fitsB xs = true ↔ xs.length ≤ 2147483647 ∧ ∀ x ∈ xs, x.size ≤ 2147483647 := by
  unfold fitsB; rw [Bool.and_eq_true, List.all_eq_true, decide_eq_true_eq]
  exact ⟨fun h => ⟨h.1, fun x hx => of_decide_eq_true (h.2 x hx)⟩, fun h => ⟨h.1, fun x hx => decide_eq_true (h.2 x hx)⟩⟩
theorem fitsB_no {xs : List ByteArray} {k : Nat} {x : ByteArray} (h : xs[k]? = some x) (hx : 2147483647 < x.size) : fitsB xs = false := by
  rw [Bool.eq_false_iff]
  intro e
  have := (fitsB_iff.1 e).2 x (List.mem_of_getElem? h)
  omega
def FitK (xs : List ByteArray) (k : Nat) : Prop := ∀ j x, j < k → xs[j]? = some x → x.size ≤ 2147483647

set_option maxRecDepth 100000 in
set_option maxHeartbeats 1000000 in
theorem zzFits1 (xs : List ByteArray) (v : Value) (w : World) (hv : StrsAt w v xs) (hm : xs.length ≤ 9223372036854775807) (hz : ∀ x ∈ xs, x.size ≤ 9223372036854775807) :
    Calls Try.prog 18 #[v] w fun e w' => e = .returned (.bool (fitsB xs)) ∧ w = w' := by
  obtain ⟨A, c, rfl⟩ := hv.shape
  obtain ⟨_, hc, hcells⟩ := hv.cells
  have HC := Lib.hid hcells
  have HZ := Lib.hid hz
  clear hv hcells hz
  by_cases hn : xs.length ≤ 2147483647
  · generalize hl : xs.length = n at hc hm hn
    have HL := Lib.hid hl
    clear hl
    go_enter Try.func18, Try.ntmps18
    go_wp2
    go_loop [10] (fun i => ∃ k : Nat, k ≤ n ∧ i = .int .i64 k ∧ Hid (FitK xs k)) (fun i => n - (RowKit.intOf i).toNat)
    case atStart => exact ⟨0, Nat.zero_le _, rfl, Lib.hid (fun j x h => absurd h (Nat.not_lt_zero _))⟩
    case round =>
      obtain ⟨k, hk, rfl, HK⟩ := hrel
      by_cases hlt : k < n
      · obtain ⟨x, hx⟩ : ∃ x, xs[k]? = some x := ⟨_, List.getElem?_eq_getElem (by rw [HL.out]; exact hlt)⟩
        obtain ⟨G, o, rfl, hG, hcell⟩ := HC.out k x hx
        have hxz := HZ.out x (List.mem_of_getElem? hx)
        have HX := Lib.hid hx
        clear hx
        by_cases hxs : x.size ≤ 2147483647
        · go_wp2
          go_round
          case rel => exact ⟨k + 1, by omega, by go_num, Lib.hid (fun j y hj hy => by
            rcases Nat.lt_or_eq_of_le (Nat.le_of_lt_succ hj) with h | rfl
            · exact HK.out j y h hy
            · obtain rfl := Option.some.inj (HX.out.symm.trans hy); exact hxs)⟩
          case measure => simp [RowKit.intOf]; omega
        · have H := Lib.hid (fitsB_no HX.out (by omega))
          go_wp2
          go_ret
          exact ⟨ret_bool H.out.symm, rfl⟩
      · have H : Hid (fitsB xs = true) := Lib.hid (fitsB_iff.2 ⟨by rw [HL.out]; exact hn, fun x hx => by
          obtain ⟨j, hj, e⟩ := List.getElem_of_mem hx
          exact HK.out j x (by rw [HL.out] at hj; omega) (by rw [List.getElem?_eq_getElem hj, e])⟩)
        go_wp2
        go_ret
        exact ⟨ret_bool H.out.symm, rfl⟩
  · have H : Hid (fitsB xs = false) := Lib.hid (by unfold fitsB; rw [decide_eq_false hn]; rfl)
    go_enter Try.func18, Try.ntmps18
    go_wp2
    go_ret
    exact ⟨ret_bool H.out.symm, rfl⟩

def evenB (xs : List ByteArray) : Bool := decide (xs.length % 2 = 0)
theorem rpEven (xs : List ByteArray) (v : Value) (w : World) (hv : StrsAt w v xs) (hm : xs.length ≤ 9223372036854775807) :
    Calls Try.prog 19 #[v] w fun e w' => e = .returned (.bool (evenB xs)) ∧ w = w' := by
  obtain ⟨A, c, rfl⟩ := hv.shape
  clear hv
  rcases Nat.mod_two_eq_zero_or_one xs.length with h | h
  · have H : Hid (evenB xs = true) := Lib.hid (by unfold evenB; rw [h]; rfl)
    have hb : (((xs.length : Int) % 2) == 0) = true := by rw [beq_iff_eq]; omega
    go_enter Try.func19, Try.ntmps19
    go_wp2
    go_ret
    exact ⟨ret_bool H.out.symm, rfl⟩
  · have H : Hid (evenB xs = false) := Lib.hid (by unfold evenB; rw [h]; rfl)
    have hb : (((xs.length : Int) % 2) == 0) = false := by rw [beq_eq_false_iff_ne]; omega
    go_enter Try.func19, Try.ntmps19
    go_wp2
    go_ret
    exact ⟨ret_bool H.out.symm, rfl⟩

/-- The old texts. -/
def oldsOf (xs : List ByteArray) : List ByteArray := (pairUp xs).map (·.1)
theorem oldsOf_len (xs : List ByteArray) : (oldsOf xs).length = xs.length / 2 := by rw [oldsOf, List.length_map, pairUp_length]
theorem oldsOf_get {xs : List ByteArray} {k : Nat} {x : ByteArray} (h : xs[2 * k]? = some x) (hk : 2 * k + 1 < xs.length) : (oldsOf xs)[k]? = some x := by
  have h2 : xs[2 * k + 1]? = some xs[2 * k + 1] := List.getElem?_eq_getElem hk
  rw [oldsOf, List.getElem?_map, pairUp_get xs k x _ h h2]; rfl
theorem take_snoc_get {α : Type} {l : List α} {k : Nat} {a : α} (h : l[k]? = some a) : l.take (k + 1) = l.take k ++ [a] := by rw [List.take_add_one, h]; rfl

def OldsR (xs : List ByteArray) (w : World) (e : Ending) (w' : World) : Prop := ∃ v', e = .returned v' ∧ StrsAt w' v' (oldsOf xs) ∧ Below w.heap.size w w'
set_option maxRecDepth 100000 in
set_option maxHeartbeats 1000000 in
theorem Olds (xs : List ByteArray) (v : Value) (w : World) (hv : StrsAt w v xs) (hm : xs.length ≤ 2147483647) :
    Calls Try.prog 36 #[v] w (OldsR xs w) := by
  obtain ⟨A, c, rfl⟩ := hv.shape
  obtain ⟨_, hc, hcells⟩ := hv.cells
  have HC := Lib.hid hcells
  clear hv hcells
  generalize hl : xs.length = n at hc hm
  have HL := Lib.hid hl
  clear hl
  obtain ⟨i0, hi, hz0, hz1, hz2⟩ := info_parts str_info
  go_enter Try.func36, Try.ntmps36
  go_wp2
  go_loopw [3, 4] (fun v iv W => ∃ (i k : Nat) (dn : List ByteArray), i ≤ n ∧ iv = .int .i64 i ∧ Hid (i = 2 * k) ∧ Hid (dn = (oldsOf xs).take k) ∧ dn.length ≤ i ∧ W.ownsRow w.heap.size 9 1 v dn.length (dn.map Value.string) ∧ Below w.heap.size w W)
    (fun _ iv _ => n - (RowKit.intOf iv).toNat)
  case atStart => exact ⟨0, 0, [], Nat.zero_le _, rfl, Lib.hid rfl, Lib.hid rfl, Nat.le_refl _, World.ownsRow_nil _ _ _ _, Below.refl _ _⟩
  case round =>
    obtain ⟨i, k, dn, hin, rfl, HI, HD, hdi, hrow, hB⟩ := hrel
    by_cases hlt : i + 1 < n
    · obtain ⟨x, hx⟩ : ∃ x, xs[i]? = some x := ⟨_, List.getElem?_eq_getElem (by have := HL.out; omega)⟩
      obtain ⟨G, o, rfl, hG, hcell⟩ := HC.out i x hx
      have hx2 : xs[2 * k]? = some x := by rw [← HI.out]; exact hx
      have c0 : wr.cell? ⟨G, o + i, none⟩ = some (.string x) := (hB.cell (p := ⟨G, o + i, none⟩) hG).trans hcell
      have HO := Lib.hid (oldsOf_get hx2 (by have := HI.out; have := HL.out; omega))
      have hltz : (i : Int) + 1 < (n : Int) := by omega
      have hmx : dn.length + 1 ≤ maxLen := by unfold maxLen; omega
      have HR := Lib.hid hrow
      have HB := Lib.hid hB
      clear hx hcell hx2 hrow hB
      go_wp2_with (at_builtin; refine wpList_append_own _ rfl _ _ 22 rfl w.heap.size 9 i0 (.string ByteArray.empty) 1 16 Try.underlying22 hi hz0 hz1 hz2 rfl (by decide) _ _ _ rfl (HR.out.alloc _) ⟨wr.heap.size, 0, none⟩ 1 1 [.string x] rfl rfl (cell_one_new _ _ _) (by simp [Value.oneCell']) hmx (by omega) (by have := HB.out.size; simp; omega) ?_; intro v' w1 hown' hgrow _; have HB1 : Hid (Below w.heap.size w w1) := Lib.hid ((HB.out.alloc HB.out.size _).grown hgrow (by have := HB.out.size; simp; omega) (fun j ej => (HR.out.lt j ej).1)); obtain ⟨g', cap', rfl⟩ := ownsRow_succ hown'; have HR1 := Lib.hid hown'; clear hown' hgrow)
      go_roundw
      case rel => exact ⟨i + 2, k + 1, dn ++ [x], by omega, by go_num, Lib.hid (by have := HI.out; omega), Lib.hid (by rw [take_snoc_get HO.out, HD.out]), by rw [List.length_append]; simp; omega, by simpa using HR1.out, HB1.out⟩
      case measure => simp [RowKit.intOf]; omega
    · have hltz : ¬ ((i : Int) + 1 < (n : Int)) := by omega
      have HE : Hid (dn = oldsOf xs) := Lib.hid (by rw [HD.out, List.take_of_length_le (by rw [oldsOf_len]; have := HI.out; have := HL.out; omega)])
      have HR := Lib.hid hrow
      have HB := Lib.hid hB
      clear hrow hB
      go_wp2
      go_ret
      exact ⟨_, rfl, HE.out ▸ StrsAt.of_own HR.out, HB.out⟩

def solidB (ys : List ByteArray) : Bool := ys.all fun s => decide (1 ≤ s.size)
theorem solidB_iff {ys : List ByteArray} : solidB ys = true ↔ ∀ y ∈ ys, 1 ≤ y.size := by
  unfold solidB; rw [List.all_eq_true]
  exact ⟨fun h y hy => of_decide_eq_true (h y hy), fun h y hy => decide_eq_true (h y hy)⟩
def SolK (ys : List ByteArray) (k : Nat) : Prop := ∀ j y, j < k → ys[j]? = some y → 1 ≤ y.size
def SomeBl (b : Bool) (w : World) (e : Ending) (w' : World) : Prop := e = .returned (.bool b) ∧ Below w.heap.size w w'
set_option maxRecDepth 100000 in
set_option maxHeartbeats 1000000 in
theorem Solid (xs : List ByteArray) (v : Value) (w : World) (hv : StrsAt w v xs) (hm : xs.length ≤ 2147483647) :
    Calls Try.prog 20 #[v] w (SomeBl (solidB (oldsOf xs)) w) := by
  have HV := Lib.hid hv
  clear hv
  go_enter Try.func20, Try.ntmps20
  go_wp2_with fail
  refine (Olds xs v w HV.out hm).mono ?_
  rintro e w1 ⟨v', rfl, hs, hB⟩
  have hlen := oldsOf_len xs
  obtain ⟨ys, hys⟩ : ∃ ys, ys = oldsOf xs := ⟨_, rfl⟩
  rw [← hys] at hs hlen
  have HY := Lib.hid hys
  clear hys
  obtain ⟨A, c, rfl⟩ := hs.shape
  obtain ⟨_, hc, hcells⟩ := hs.cells
  have HC := Lib.hid hcells
  have HB := Lib.hid hB
  have hn : ys.length ≤ 2147483647 := by omega
  clear hs hcells hB hlen
  generalize hl : ys.length = n at hc hn
  have HL := Lib.hid hl
  clear hl
  go_wp2_with fail
  go_loop [8] (fun i => ∃ k : Nat, k ≤ n ∧ i = .int .i64 k ∧ Hid (SolK ys k)) (fun i => n - (RowKit.intOf i).toNat)
  case atStart => exact ⟨0, Nat.zero_le _, rfl, Lib.hid (fun j x h => absurd h (Nat.not_lt_zero _))⟩
  case round =>
    obtain ⟨k, hk, rfl, HK⟩ := hrel
    by_cases hlt : k < n
    · obtain ⟨x, hx⟩ : ∃ x, ys[k]? = some x := ⟨_, List.getElem?_eq_getElem (by rw [HL.out]; exact hlt)⟩
      obtain ⟨G, o, rfl, hG, hcell⟩ := HC.out k x hx
      have HX := Lib.hid hx
      clear hx
      by_cases hxs : 1 ≤ x.size
      · have hne := neB hxs
        go_wp2_with fail
        go_round
        case rel => exact ⟨k + 1, by omega, by go_num, Lib.hid (fun j y hj hy => by
          rcases Nat.lt_or_eq_of_le (Nat.le_of_lt_succ hj) with h | rfl
          · exact HK.out j y h hy
          · obtain rfl := Option.some.inj (HX.out.symm.trans hy); exact hxs)⟩
        case measure => simp [RowKit.intOf]; omega
      · obtain rfl := emptyB x (by omega)
        have H : Hid (solidB ys = false) := Lib.hid (by
          rw [Bool.eq_false_iff]
          intro e
          exact hxs (solidB_iff.1 e _ (List.mem_of_getElem? HX.out)))
        go_wp2_with fail
        go_ret
        exact ⟨ret_bool (by rw [← HY.out]; exact H.out.symm), HB.out⟩
    · have H : Hid (solidB ys = true) := Lib.hid (solidB_iff.2 (fun x hx => by
        obtain ⟨j, hj, e⟩ := List.getElem_of_mem hx
        exact HK.out j x (by rw [HL.out] at hj; omega) (by rw [List.getElem?_eq_getElem hj, e])))
      go_wp2_with fail
      go_ret
      exact ⟨ret_bool (by rw [← HY.out]; exact H.out.symm), HB.out⟩
end Go.Proofs.Ytnigbgablginnaa

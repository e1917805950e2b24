/- impl.ReplaceEach. -/
import Derived.Test.YtnigbgablginnaaGenS
set_option linter.unusedVariables false
namespace Go.Proofs.Ytnigbgablginnaa
open Go.RowKit Go.Lib

/-- What is made of each text. -/
def eachOf (xs ts : List ByteArray) : List ByteArray := ts.map fun s => ⟨(repl (prs xs) s.data.toList true).toArray⟩
theorem eachOf_get {xs ts : List ByteArray} {k : Nat} {x : ByteArray} (h : ts[k]? = some x) : (eachOf xs ts)[k]? = some ⟨(repl (prs xs) x.data.toList true).toArray⟩ := by
  unfold eachOf; rw [List.getElem?_map, h]; rfl
theorem eachOf_len (xs ts : List ByteArray) : (eachOf xs ts).length = ts.length := List.length_map _
def EachR (ys : List ByteArray) (w : World) (e : Ending) (w' : World) : Prop := ∃ v', e = .returned v' ∧ StrsAt w' v' ys ∧ Below w.heap.size w w'
set_option maxRecDepth 100000 in
set_option maxHeartbeats 2000000 in
theorem replaceEach {xs ts : List ByteArray} (h : Few xs) (v u : Value) (w : World) (hv : StrsAt w v xs) (hu : StrsAt w u ts) (ht : ts.length ≤ 2147483647) (hs : ∀ t ∈ ts, t.size ≤ 2097152) :
    Calls Try.prog 29 #[v, u] w (EachR (eachOf xs ts) w) := by
  have hfl := fun s hs' => few_len h s hs'
  obtain ⟨he, hx, hz⟩ := h
  have hp := pairsOf_up xs he
  have HM := Lib.hid (made xs (pairUp xs) v w hv hp hx (fun x hx' => by have := hz x hx'; omega))
  have HRA := Lib.hid (fun (W : World) (R : Nat) (hR : RepOk W R (pairUp xs) xs.length) (s : ByteArray) (hs' : s.size ≤ 2097152) => rep_any hR (by have := hp.1; omega) (fun q hq => ⟨hz _ (pairUp_mem he hq).2.1, hz _ (pairUp_mem he hq).2.2⟩) s hs' (by
    rw [prs_up]; exact Nat.le_trans (hfl s.data.toList (by rw [← Lib.size_eq]; exact hs')) (by decide)))
  rw [prs_up] at HRA
  obtain ⟨A, c, rfl⟩ := hu.shape
  obtain ⟨_, hc, hcells⟩ := hu.cells
  have HC := Lib.hid hcells
  have HZ := Lib.hid hs
  have HEL := Lib.hid (eachOf_len xs ts)
  clear hv hcells hz hs hu hp hfl he
  generalize hl : ts.length = n at hc ht HEL
  have HL := Lib.hid hl
  clear hl
  obtain ⟨i0, hi, hz0, hz1, hz2⟩ := info_parts str_info
  go_enter Try.func29, Try.ntmps29
  go_wp2_with (go_at_call 42; (with_reducible refine HM.out.mono ?_); rintro e w1 ⟨R, rfl, hR, hB⟩; have HR := Lib.hid hR; have HB := Lib.hid hB; clear hR hB)
  go_loopw [7, 19] (fun ov iv W => ∃ (k : Nat) (dn : List ByteArray), k ≤ n ∧ iv = .int .i64 k ∧ Hid (dn = (eachOf xs ts).take k) ∧ dn.length ≤ k ∧ Hid (W.ownsRow w1.heap.size 9 1 ov dn.length (dn.map Value.string)) ∧ Hid (Below w1.heap.size w1 W))
    (fun _ iv _ => n - (RowKit.intOf iv).toNat)
  case atStart => exact ⟨0, [], Nat.zero_le _, rfl, Lib.hid rfl, Nat.le_refl _, Lib.hid (World.ownsRow_nil _ _ _ _), Lib.hid (Below.refl _ _)⟩
  case round =>
    obtain ⟨k, dn, hk, rfl, HD, hdk, HO, HB1⟩ := hrel
    by_cases hlt : k < n
    · obtain ⟨x, hx⟩ : ∃ x, ts[k]? = some x := ⟨_, List.getElem?_eq_getElem (by have := HL.out; omega)⟩
      obtain ⟨G, o, rfl, hG, hcell⟩ := HC.out k x hx
      have c0 : wr.cell? ⟨G, o + k, none⟩ = some (.string x) := (HB1.out.cell (p := ⟨G, o + k, none⟩) (Nat.lt_of_lt_of_le hG HB.out.size)).trans ((HB.out.cell (p := ⟨G, o + k, none⟩) hG).trans hcell)
      have HX := Lib.hid (eachOf_get (xs := xs) hx)
      have HCl := Lib.hid (HRA.out wr R (HR.out.below HB1.out) x (HZ.out x (List.mem_of_getElem? hx)))
      have hltz : (k : Int) < (n : Int) := by omega
      obtain ⟨y, hy⟩ : ∃ y : ByteArray, y = ⟨(repl (prs xs) x.data.toList true).toArray⟩ := ⟨_, rfl⟩
      unfold Rpd at HCl
      rw [← hy] at HX HCl
      clear hx hcell hy
      go_wp2_with (first | (go_at_call 43; (with_reducible refine HCl.out.mono ?_); rintro e w2 ⟨rfl, hB2⟩; have HO2 := Lib.hid (ownsRow_bel HO.out hB2); have HB2 := Lib.hid (HB1.out.trans (hB2.mono HB1.out.size)); clear hB2) | (at_builtin; refine wpList_append_own _ rfl _ _ 22 rfl w1.heap.size 9 i0 (.string ByteArray.empty) 1 16 Try.underlying22 hi hz0 hz1 hz2 rfl (by decide) _ _ _ rfl (HO2.out.alloc _) ⟨w2.heap.size, 0, none⟩ 1 1 [.string y] rfl rfl (cell_one_new _ _ _) (by simp [Value.oneCell']) (by unfold maxLen; omega) (by omega) (by have := HB2.out.size; simp; omega) ?_; intro v' w3 hown' hgrow _; have HB3 : Hid (Below w1.heap.size w1 w3) := Lib.hid ((HB2.out.alloc HB2.out.size _).grown hgrow (by have := HB2.out.size; simp; omega) (fun j ej => (HO2.out.lt j ej).1)); have HR1 := Lib.hid hown'; clear hown' hgrow))
      go_roundw
      case rel => exact ⟨k + 1, dn ++ [y], by omega, by go_num, Lib.hid (by rw [take_snoc_get HX.out, HD.out]), by rw [List.length_append]; simp; omega, Lib.hid (by simpa using HR1.out), HB3⟩
      case measure => simp [RowKit.intOf]; omega
    · have hltz : ¬ ((k : Int) < (n : Int)) := by omega
      have HE : Hid (dn = eachOf xs ts) := Lib.hid (by rw [HD.out, List.take_of_length_le (by have := HEL.out; omega)])
      go_wp2
      go_ret
      exact ⟨_, rfl, HE.out ▸ StrsAt.of_own HO.out, HB.out.trans (HB1.out.mono HB.out.size)⟩
end Go.Proofs.Ytnigbgablginnaa

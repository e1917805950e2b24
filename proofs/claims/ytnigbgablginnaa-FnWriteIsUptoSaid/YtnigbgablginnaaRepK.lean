/- Replace where all old texts are single bytes; rpReplaces; rpBytes. -/
import Derived.Test.YtnigbgablginnaaStrR
import Derived.Test.YtnigbgablginnaaWSwapped
set_option linter.unusedVariables false
namespace Go.Proofs.Ytnigbgablginnaa
open Go.RowKit Go.Lib

theorem g_to (ps : List (Bs × Bs)) : gOf (byteFor ps) = byteTo ps := by funext c; exact (byteTo_for ps c).symm
theorem one_only {qs : List BB} (ho : oldOne qs) : bytesOnly (qs.map tb) := fun p hp => by
  obtain ⟨q, hq, rfl⟩ := List.mem_map.1 hp
  have := ho q hq
  show q.1.data.toList.length = 1
  rw [← Lib.size_eq]; exact this
theorem byteTo_len {qs : List BB} {m : Nat} (hm : 1 ≤ m) (h : ∀ q ∈ qs, q.2.size ≤ m) (c : UInt8) : (byteTo (qs.map tb) c).length ≤ m := by
  unfold byteTo
  cases hf : (qs.map tb).find? (fun p => p.1 == [c]) with
  | none => exact hm
  | some p =>
    obtain ⟨q, hq, rfl⟩ := List.mem_map.1 (List.mem_of_find?_eq_some hf)
    show q.2.data.toList.length ≤ m
    rw [← Lib.size_eq]; exact h q hq
theorem rep_kind_1 {w : World} {R : Nat} {qs : List BB} {L : Nat} (h : RepOk w R qs L) (ho : oldOne qs) (hq : ∀ q ∈ qs, q.2.size ≤ 2097152) (s : ByteArray) (hs : s.size ≤ 2097152) :
    Calls Try.prog 43 #[at0 R, .string s] w (Rpd (repl (qs.map tb) s.data.toList true) w) := by
  by_cases hn : newOne qs
  · exact rep_kind_bytes h ho hn s (by omega)
  · obtain ⟨v, base, hc, hb, _⟩ := h
    cases hb with
    | single R F G p v S hq' hp h hb => rw [hq'] at ho; have := ho (p, v) (by simp); simp at this; omega
    | gen g m N T hs ho' h => exact absurd ho ho'
    | bytes B Rf hs' ho' hn' hT hR hb => exact absurd hn' hn
    | strs B Lb hs' ho' hn' h hb =>
      have e : repl (qs.map tb) s.data.toList true = s.data.toList.flatMap (gOf (byteFor (qs.map tb))) := by rw [repl_bytes (one_only ho), g_to]
      rw [e]
      exact rep_strs R B _ s w hc (strRep B base _ Lb s w h hs (fun c => by rw [g_to]; exact byteTo_len (by decide) hq c))
theorem pairUp_mem {xs : List ByteArray} (he : xs.length % 2 = 0) {q : BB} (h : q ∈ pairUp xs) : q.1 ∈ oldsOf xs ∧ q.1 ∈ xs ∧ q.2 ∈ xs := by
  obtain ⟨k, hk, e⟩ := List.getElem_of_mem h
  have := (pairsOf_up xs he).2 k q (by rw [List.getElem?_eq_getElem hk, e])
  exact ⟨List.mem_map.2 ⟨q, h, rfl⟩, List.mem_of_getElem? this.1, List.mem_of_getElem? this.2⟩
def One (xs : List ByteArray) : Prop := xs.length % 2 = 0 ∧ xs.length ≤ 2147483647 ∧ (∀ x ∈ xs, x.size ≤ 2097152) ∧ ∀ x ∈ oldsOf xs, x.size = 1
theorem imp1 {xs : List ByteArray} (h : One xs) (v : Value) (s : ByteArray) (w : World) (hv : StrsAt w v xs) (hs : s.size ≤ 2097152) :
    Calls Try.prog 39 #[v, .string s] w (ImpR (repl (prs xs) s.data.toList true) w) := by
  obtain ⟨he, hx, hz, ho⟩ := h
  rw [← prs_up]
  exact impRep xs (pairUp xs) v _ s w hv (pairsOf_up xs he) hx (fun x hx' => by have := hz x hx'; omega) (fun w1 R hR => rep_kind_1 hR (fun q hq => ho _ (pairUp_mem he hq).1) (fun q hq => hz _ (pairUp_mem he hq).2.2) s hs)
theorem rpText1 {xs : List ByteArray} (h : One xs) (v : Value) (s : ByteArray) (w : World) (hv : StrsAt w v xs) (hs : s.size ≤ 2097152) :
    Calls Try.prog 25 #[v, .string s] w (TextR (repl (prs xs) s.data.toList true) w) := rpText v s _ w (imp1 h v s w hv hs)
theorem rpIs1 {xs : List ByteArray} (h : One xs) (v : Value) (s want : ByteArray) (w : World) (hv : StrsAt w v xs) (hs : s.size ≤ 2097152) (hw : repl (prs xs) s.data.toList true = want.data.toList) :
    Calls Try.prog 23 #[v, .string s, .string want] w (RpIsR true w) := by
  have := rpIs v s want _ w (imp1 h v s w hv hs)
  rw [hw] at this
  simpa using this
theorem ab_one : One [⟨#[97]⟩, ⟨#[98]⟩] := ⟨rfl, by decide, by decide, by decide⟩
theorem ab_at (W : World) : StrsAt (W.alloc (.cells #[.string ⟨#[97]⟩, .string ⟨#[98]⟩] 9)) (.slice (some ⟨W.heap.size, 0, none⟩) 2 2) [⟨#[97]⟩, ⟨#[98]⟩] := ⟨_, _, rfl, by simp, fun _ => ⟨_, _, rfl, by simp, fun j u hu => by
  rw [cell_of_row _ _ _ _ _ _ (heap_alloc_new W _)]
  match j, hu with
  | 0, hu => cases hu; rfl
  | 1, hu => cases hu; rfl⟩⟩
theorem ab_repl : repl (prs [⟨#[97]⟩, ⟨#[98]⟩]) [97] true = [98] := by
  rw [repl_bytes (fun p hp => by
    have : p = ([97], [98]) := List.mem_singleton.1 hp
    rw [this]; rfl)]
  rfl
set_option maxRecDepth 100000 in
set_option maxHeartbeats 1000000 in
theorem rpReplaces (w : World) : Calls Try.prog 22 #[] w (RpIsR true w) := by
  have HI := Lib.hid (rpIs1 ab_one _ ⟨#[97]⟩ ⟨#[98]⟩ _ (ab_at w) (by decide) ab_repl)
  go_enter Try.func22, Try.ntmps22
  go_wp2_with (go_at_call 23; (with_reducible refine HI.out.mono ?_); rintro e w1 ⟨rfl, hB⟩; have HB := Lib.hid hB; clear hB)
  go_ret
  exact ⟨rfl, ((Below.refl _ w).alloc (Nat.le_refl _) _).trans (HB.out.mono (by simp))⟩
def oneB (ys : List ByteArray) : Bool := ys.all fun s => decide (s.size = 1)
theorem oneB_iff {ys : List ByteArray} : oneB ys = true ↔ ∀ y ∈ ys, y.size = 1 := by
  unfold oneB; rw [List.all_eq_true]; simp
def OneK (ys : List ByteArray) (k : Nat) : Prop := ∀ j y, j < k → ys[j]? = some y → y.size = 1
set_option maxRecDepth 100000 in
set_option maxHeartbeats 1000000 in
theorem rpBytes (xs : List ByteArray) (v : Value) (w : World) (hv : StrsAt w v xs) (hm : xs.length ≤ 2147483647) (hz : ∀ x ∈ oldsOf xs, x.size ≤ 2147483647) :
    Calls Try.prog 35 #[v] w (SomeBl (oneB (oldsOf xs) && evenB xs) w) := by
  have HV := Lib.hid hv
  have HEv := Lib.hid (fun W hW => rpEven xs v W hW (by omega))
  clear hv
  go_enter Try.func35, Try.ntmps35
  go_wp2_with fail
  refine (Olds xs v w HV.out hm).mono ?_
  rintro e w1 ⟨v', rfl, hs, hB⟩
  have hlen := oldsOf_len xs
  obtain ⟨ys, hys⟩ : ∃ ys, ys = oldsOf xs := ⟨_, rfl⟩
  rw [← hys] at hs hlen hz
  have HY := Lib.hid hys
  have HZ := Lib.hid hz
  clear hys hz
  obtain ⟨A, c, rfl⟩ := hs.shape
  obtain ⟨_, hc, hcells⟩ := hs.cells
  have HC := Lib.hid hcells
  have HB := Lib.hid hB
  have hn : ys.length ≤ 2147483647 := by omega
  have HE1 := Lib.hid (HEv.out w1 (HV.out.below hB))
  clear hs hcells hB hlen HEv
  generalize hl : ys.length = n at hc hn
  have HL := Lib.hid hl
  clear hl
  go_wp2_with fail
  go_loop [8] (fun i => ∃ k : Nat, k ≤ n ∧ i = .int .i64 k ∧ Hid (OneK ys k)) (fun i => n - (RowKit.intOf i).toNat)
  case atStart => exact ⟨0, Nat.zero_le _, rfl, Lib.hid (fun j x h => absurd h (Nat.not_lt_zero _))⟩
  case round =>
    obtain ⟨k, hk, rfl, HK⟩ := hrel
    by_cases hlt : k < n
    · obtain ⟨x, hx⟩ : ∃ x, ys[k]? = some x := ⟨_, List.getElem?_eq_getElem (by rw [HL.out]; exact hlt)⟩
      obtain ⟨G, o, rfl, hG, hcell⟩ := HC.out k x hx
      have HX := Lib.hid hx
      have hxz := HZ.out x (List.mem_of_getElem? hx)
      clear hx
      by_cases hxs : x.size = 1
      · have hne : ((x.size : Int) != 1) = false := by rw [hxs]; rfl
        have HXS := Lib.hid hxs
        clear hxs
        go_wp2_with fail
        go_round
        case rel => exact ⟨k + 1, by omega, by go_num, Lib.hid (fun j y hj hy => by
          rcases Nat.lt_or_eq_of_le (Nat.le_of_lt_succ hj) with h | rfl
          · exact HK.out j y h hy
          · obtain rfl := Option.some.inj (HX.out.symm.trans hy); exact HXS.out)⟩
        case measure => simp [RowKit.intOf]; omega
      · have hne : ((x.size : Int) != 1) = true := by rw [bne_iff_ne]; omega
        have H : Hid (oneB ys = false) := Lib.hid (by
          rw [Bool.eq_false_iff]
          intro e
          exact hxs (oneB_iff.1 e _ (List.mem_of_getElem? HX.out)))
        clear hxs
        go_wp2_with fail
        go_ret
        exact ⟨ret_bool (by rw [← HY.out, H.out]; rfl), HB.out⟩
    · have H : Hid (oneB ys = true) := Lib.hid (oneB_iff.2 (fun x hx => by
        obtain ⟨j, hj, e⟩ := List.getElem_of_mem hx
        exact HK.out j x (by rw [HL.out] at hj; omega) (by rw [List.getElem?_eq_getElem hj, e])))
      have hge : ¬ ((k : Int) < (n : Int)) := by omega
      go_wp2_with (go_at_call 19; (with_reducible refine HE1.out.mono ?_); rintro e w2 ⟨rfl, rfl⟩)
      go_ret
      exact ⟨ret_bool (by rw [← HY.out, H.out]; rfl), HB.out⟩
end Go.Proofs.Ytnigbgablginnaa

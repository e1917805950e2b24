/- The reference's Apart. -/
import Derived.Test.YtnigbgablginnaaTurnL
import Derived.Test.YtnigbgablginnaaPrS
set_option linter.unusedVariables false
namespace Go.Proofs.Ytnigbgablginnaa
open Go.RowKit Go.Lib

/-- As far as pair i, and at pair i as far as k. -/
def ApI (ys : List ByteArray) (i : Nat) : Prop := ∀ (a b : Nat) x y, a < i → a ≠ b → ys[a]? = some x → ys[b]? = some y → atB x y 0 = false
def ApJ (ys : List ByteArray) (i k : Nat) : Prop := ∀ (b : Nat) x y, b < k → i ≠ b → ys[i]? = some x → ys[b]? = some y → atB x y 0 = false
theorem ApI.zero (ys : List ByteArray) : ApI ys 0 := fun _ _ _ _ h => absurd h (Nat.not_lt_zero _)
theorem ApJ.zero (ys : List ByteArray) (i : Nat) : ApJ ys i 0 := fun _ _ _ h => absurd h (Nat.not_lt_zero _)
theorem ApJ.succ {ys : List ByteArray} {i k : Nat} {x y : ByteArray} (h : ApJ ys i k) (hx : ys[i]? = some x) (hy : ys[k]? = some y) (ha : i ≠ k → atB x y 0 = false) : ApJ ys i (k + 1) := by
  intro b x' y' hb hne hx' hy'
  rcases Nat.lt_or_eq_of_le (Nat.le_of_lt_succ hb) with h1 | rfl
  · exact h b x' y' h1 hne hx' hy'
  · rw [hx] at hx'
    rw [hy] at hy'
    obtain rfl := Option.some.inj hx'
    obtain rfl := Option.some.inj hy'
    exact ha hne
theorem ApI.succ {ys : List ByteArray} {i : Nat} (h : ApI ys i) (hj : ApJ ys i ys.length) : ApI ys (i + 1) := by
  intro a b x y ha hne hx hy
  rcases Nat.lt_or_eq_of_le (Nat.le_of_lt_succ ha) with h1 | rfl
  · exact h a b x y h1 hne hx hy
  · exact hj b x y (List.getElem?_eq_some_iff.1 hy).1 hne hx hy
theorem ApI.all {ys : List ByteArray} (h : ApI ys ys.length) : ApartK ys := fun i j x y hne hx hy => h i j x y (List.getElem?_eq_some_iff.1 hx).1 hne hx hy
def ApartR (ys : List ByteArray) (w : World) (e : Ending) (w' : World) : Prop := ∃ b, e = .returned (.bool b) ∧ (b = true → ApartK ys) ∧ Below w.heap.size w w'
set_option maxRecDepth 100000 in
set_option maxHeartbeats 2000000 in
theorem Apart (xs : List ByteArray) (v : Value) (w : World) (hv : StrsAt w v xs) (hm : xs.length ≤ 2147483647) (hz : ∀ x ∈ oldsOf xs, x.size < 140737488355328) :
    Calls Try.prog 21 #[v] w (ApartR (oldsOf xs) w) := by
  have HV := Lib.hid hv
  clear hv
  go_enter Try.func21, Try.ntmps21
  go_wp2_with fail
  refine (Olds xs v w HV.out hm).mono ?_
  rintro e w1 ⟨v', rfl, hs, hB⟩
  have hlen := oldsOf_len xs
  obtain ⟨ys, hys⟩ : ∃ ys, ys = oldsOf xs := ⟨_, rfl⟩
  rw [← hys] at hs hlen hz
  have HYS := Lib.hid hys
  clear hys
  obtain ⟨A, c, rfl⟩ := hs.shape
  obtain ⟨_, hc, hcells⟩ := hs.cells
  have HC := Lib.hid hcells
  have HB := Lib.hid hB
  have HZ := Lib.hid hz
  have hn : ys.length ≤ 2147483647 := by omega
  clear hs hcells hB hlen hz
  generalize hl : ys.length = n at hc hn
  have HL := Lib.hid hl
  clear hl
  go_wp2_with fail
  go_loop [12] (fun iv => ∃ i : Nat, i ≤ n ∧ iv = .int .i64 i ∧ Hid (ApI ys i)) (fun iv => n - (RowKit.intOf iv).toNat)
  case atStart => exact ⟨0, Nat.zero_le _, rfl, Lib.hid (ApI.zero _)⟩
  case round =>
    obtain ⟨i, hi, rfl, HI⟩ := hrel
    by_cases hlt : i < n
    · obtain ⟨x, hx⟩ : ∃ x, ys[i]? = some x := ⟨_, List.getElem?_eq_getElem (by have := HL.out; omega)⟩
      obtain ⟨G, o, rfl, hG, hcell⟩ := HC.out i x hx
      have HX := Lib.hid hx
      have hxz := HZ.out x (List.mem_of_getElem? hx)
      have hltz : (i : Int) < (n : Int) := by omega
      clear hx
      go_wp2_with fail
      go_loop [19] (fun jv => ∃ j : Nat, j ≤ n ∧ jv = .int .i64 j ∧ Hid (ApJ ys i j)) (fun jv => n - (RowKit.intOf jv).toNat)
      case atStart => exact ⟨0, Nat.zero_le _, rfl, Lib.hid (ApJ.zero _ _)⟩
      case round =>
        obtain ⟨j, hj, rfl, HJ⟩ := hrel
        by_cases hltj : j < n
        · obtain ⟨y, hy⟩ : ∃ y, ys[j]? = some y := ⟨_, List.getElem?_eq_getElem (by have := HL.out; omega)⟩
          obtain ⟨G', o', eG, hG', hcell'⟩ := HC.out j y hy
          obtain ⟨rfl, rfl⟩ : G = G' ∧ o = o' := by cases eG; exact ⟨rfl, rfl⟩
          have HY := Lib.hid hy
          have hyz := HZ.out y (List.mem_of_getElem? hy)
          have hltjz : (j : Int) < (n : Int) := by omega
          clear hy
          by_cases hij : i = j
          · have hb : ((i : Int) != (j : Int)) = false := by rw [hij]; simp
            have HJ2 := Lib.hid (HJ.out.succ HX.out HY.out (fun h => absurd hij h))
            clear hij
            go_wp2_with fail
            go_round
            case rel => exact ⟨j + 1, by omega, by go_num, HJ2⟩
            case measure => simp [RowKit.intOf]; omega
          · have hb : ((i : Int) != (j : Int)) = true := by rw [bne_iff_ne]; omega
            have HS := Lib.hid (StartsAt x y 0 w1 hxz hyz (by omega) (by omega))
            cases hat : atB x y 0 with
            | true =>
              rw [hat] at HS
              clear hij hat
              go_wp2_with (go_at_call 38; (with_reducible refine HS.out.mono ?_); rintro e w' ⟨rfl, rfl⟩)
              go_ret
              exact ⟨_, rfl, (fun h => by cases h), HB.out⟩
            | false =>
              rw [hat] at HS
              have HJ2 := Lib.hid (HJ.out.succ HX.out HY.out (fun _ => hat))
              clear hij hat
              go_wp2_with (go_at_call 38; (with_reducible refine HS.out.mono ?_); rintro e w' ⟨rfl, rfl⟩)
              go_round
              case rel => exact ⟨j + 1, by omega, by go_num, HJ2⟩
              case measure => simp [RowKit.intOf]; omega
        · have hge : ¬ ((j : Int) < (n : Int)) := by omega
          obtain rfl : j = n := by omega
          have HI2 := Lib.hid (HI.out.succ (by rw [HL.out]; exact HJ.out))
          go_wp2_with fail
          go_round
          case rel => exact ⟨i + 1, by omega, by go_num, HI2⟩
          case measure => simp [RowKit.intOf]; omega
    · have hge : ¬ ((i : Int) < (n : Int)) := by omega
      obtain rfl : i = n := by omega
      have HA : Hid (ApartK ys) := Lib.hid (ApI.all (by rw [HL.out]; exact HI.out))
      go_wp2_with fail
      go_ret
      exact ⟨_, rfl, fun _ => HYS.out ▸ HA.out, HB.out⟩
end Go.Proofs.Ytnigbgablginnaa

/- gostrings.SplitN, Split, SplitAfter and the thin package's calls of them, at a separator that is not empty. -/
import Derived.Test.YtblaldahhhokmaaDoorSpl
set_option linter.unusedVariables false
namespace Go.Proofs.YtblaldahhhokmaaDoor
open Go.RowKit Go.Lib

theorem cellsOf_at {xs : List ByteArray} {N j : Nat} {u : ByteArray} (h : xs[j]? = some u) : (cellsOf xs N)[j]? = some (.string u) := by
  have hj := (List.getElem?_eq_some_iff.1 h).1
  unfold cellsOf
  rw [List.getElem?_toArray, List.getElem?_append_left (by simpa using hj), List.getElem?_map, h]
  rfl

/-- What genSplit hands back stands there. -/
theorem split_at (xs : List ByteArray) (N : Nat) (w : World) (hN : xs.length ≤ N) : StrsAt (w.alloc (.cells (cellsOf xs N) 9)) (.slice (some ⟨w.heap.size, 0, none⟩) xs.length N) xs :=
  ⟨_, N, rfl, hN, fun _ => ⟨w.heap.size, 0, rfl, by simp, fun j u hu => by
    rw [Nat.zero_add, World.cell?_alloc_at _ _ _ _ rfl]
    exact cellsOf_at hu⟩⟩

/-- How many pieces at most. -/
def pN (s sep : ByteArray) (n : Int) : Nat := (min (if n < 0 then (countB s sep : Int) + 1 else n) ((s.size : Int) + 1)).toNat
theorem pN_eq (s sep : ByteArray) (n : Int) (hn : n ≠ 0) : (pN s sep n : Int) = min (if n < 0 then (countB s sep : Int) + 1 else n) ((s.size : Int) + 1) := by
  unfold pN
  have : 0 ≤ min (if n < 0 then (countB s sep : Int) + 1 else n) ((s.size : Int) + 1) := by
    refine Int.le_min.2 ⟨?_, by omega⟩
    split <;> omega
  omega
theorem pN_pos (s sep : ByteArray) (n : Int) (hn : n ≠ 0) : 1 ≤ pN s sep n := by
  have h := pN_eq s sep n hn
  have : 1 ≤ min (if n < 0 then (countB s sep : Int) + 1 else n) ((s.size : Int) + 1) := by
    refine Int.le_min.2 ⟨?_, by omega⟩
    split <;> omega
  omega
theorem pN_le (s sep : ByteArray) (n : Int) (hn : n ≠ 0) : pN s sep n ≤ s.size + 1 := by
  have h := pN_eq s sep n hn
  have : min (if n < 0 then (countB s sep : Int) + 1 else n) ((s.size : Int) + 1) ≤ (s.size : Int) + 1 := Int.min_le_right _ _
  omega
/-- The pieces. -/
def pcs (s sep : ByteArray) (sv : Nat) (n : Int) : List ByteArray := splitB sep sv (pN s sep n - 1) s
theorem pcs_len (s sep : ByteArray) (sv : Nat) (n : Int) (hn : n ≠ 0) : (pcs s sep sv n).length ≤ pN s sep n := by
  have := splitB_length_le sep sv (pN s sep n - 1) s
  have := pN_pos s sep n hn
  unfold pcs
  omega

theorem gen_at (s sep : ByteArray) (sv : Nat) (n : Int) (w : World) (hs : s.size < 4294967281) (h1 : 1 ≤ sep.size) (hsv : sv ≤ sep.size) (hn0 : n ≠ 0) (hn63 : n ≤ 9223372036854775807) :
    Calls Tryd.prog 56 #[.string s, .string sep, .int .i64 sv, .int .i64 n] w fun e w' => ∃ v, e = .returned v ∧ StrsAt w' v (pcs s sep sv n) ∧ Below w.heap.size w w' :=
  (genSplit s sep sv n (pN s sep n) w hs h1 hsv hn0 hn63 (pN_eq s sep n hn0)).mono fun e w' ⟨he, hw⟩ => ⟨_, he, hw ▸ split_at _ _ w (pcs_len s sep sv n hn0), hw ▸ (Below.refl _ w).alloc (Nat.le_refl _) _⟩

theorem pcs_small (s sep : ByteArray) (sv : Nat) (n : Int) (hn : n ≠ 0) (hs : s.size < 2147483648) : (pcs s sep sv n).length < 4294967281 := by
  have := pcs_len s sep sv n hn
  have := pN_le s sep n hn
  omega

set_option maxHeartbeats 1000000 in
theorem StrSplitN (s sep : ByteArray) (n : Int) (w : World) (hs : s.size < 2147483648) (h1 : 1 ≤ sep.size) (hn0 : n ≠ 0) (hn63 : n ≤ 9223372036854775807) :
    Calls Tryd.prog 24 #[.string s, .string sep, .int .i64 n] w fun e w' => ∃ v, e = .returned v ∧ StrsAt w' v (pcs s sep 0 n) ∧ Below w.heap.size w w' := by
  have CG := fun W => Lib.hid (gen_at s sep 0 n W (by omega) h1 (Nat.zero_le _) hn0 hn63)
  have CC := fun v W hv => Lib.hid (CloneS (pcs s sep 0 n) v W hv (pcs_small s sep 0 n hn0 hs))
  have HG := Lib.hid CG
  have HC := Lib.hid CC
  clear CG CC
  go_enter Tryd.func24, Tryd.ntmps24
  go_wp2_with (first | (go_at_call 56; refine (HG.out _).out.mono ?_; rintro e w1 ⟨v, rfl, hv, hB⟩; have HV := Lib.hid hv; have HB := Lib.hid hB; clear hv hB) | (go_at_call 43; go_in) | (go_at_call 37; refine (HC.out _ _ HV.out).out.mono ?_; rintro e w2 ⟨v2, rfl, hv2, hB2⟩; have HV2 := Lib.hid hv2; have HB2 := Lib.hid hB2; clear hv2 hB2))
  go_ret
  exact ⟨_, rfl, HV2.out, HB.out.trans (HB2.out.mono HB.out.size)⟩
end Go.Proofs.YtblaldahhhokmaaDoor

/- FnSingleStep: the walk (texts of bulk at most 1048576). -/
import Derived.Test.YtnigbgablginnaaSg
import Derived.Test.YtnigbgablginnaaEmp
import Derived.Test.YtnigbgablginnaaRSp
set_option linter.unusedVariables false
namespace Go.Proofs.Ytnigbgablginnaa
open Go.RowKit Go.Lib

/-- What a replacer of one old text makes. -/
def sgl (p v s : ByteArray) : ByteArray := ⟨(Lib.replaceK p.data.toList v.data.toList (Lib.count s.data.toList p.data.toList) s.data.toList).toArray⟩
theorem sgl_list (p v s : ByteArray) : (sgl p v s).data.toList = Lib.replaceK p.data.toList v.data.toList (Lib.count s.data.toList p.data.toList) s.data.toList := by simp [sgl]

theorem replaceK_len (old new : List UInt8) : ∀ (k : Nat) (s : List UInt8), (Lib.replaceK old new k s).length ≤ s.length + k * new.length
  | 0, s => by simp [Lib.replaceK]
  | k + 1, s => by
    rcases index_spec s old with ⟨h, _⟩ | ⟨i, h, hr, _⟩
    · rw [Lib.replaceK, h, if_pos (by decide)]; omega
    · rw [replaceK_hit old new k s i h]
      have := replaceK_len old new k (s.drop (i + old.length))
      simp only [List.length_append, List.length_take, List.length_drop] at *
      rw [Nat.add_mul, Nat.one_mul]
      omega
theorem count_le (s p : ByteArray) (h1 : 1 ≤ p.size) : Lib.count s.data.toList p.data.toList ≤ s.size := by
  have := Lib.countB_mul_le p h1 s.size s (Nat.le_refl _)
  exact Nat.le_trans (Nat.le_mul_of_pos_right _ (by omega)) this
theorem sgl_size (p v s : ByteArray) (h1 : 1 ≤ p.size) (hk : p.size + v.size + s.size ≤ 1048576) : (sgl p v s).size ≤ 1048576 + 1048576 * 1048576 := by
  rw [Lib.size_eq, sgl_list]
  have h := replaceK_len p.data.toList v.data.toList (Lib.count s.data.toList p.data.toList) s.data.toList
  have hc := count_le s p h1
  rw [← Lib.size_eq, ← Lib.size_eq] at h
  have : Lib.count s.data.toList p.data.toList * v.size ≤ 1048576 * 1048576 := Nat.mul_le_mul (by omega) (by omega)
  omega
theorem sgl_none (p v s : ByteArray) (h : Lib.index s.data.toList p.data.toList = -1) : sgl p v s = s := by
  refine ba_eq ?_
  rw [sgl_list, count_miss h, Lib.replaceK]
theorem sgl_some (p v s : ByteArray) (h1 : 1 ≤ p.size) (k : Nat) (h : Lib.index s.data.toList p.data.toList = k) : sgl p v s = s.extract 0 k ++ v ++ sgl p v (s.extract (k + p.size) s.size) := by
  refine ba_eq ?_
  have hpe : p.data.toList ≠ [] := fun e => by have := Lib.size_eq p; rw [e, List.length_nil] at this; omega
  have hl : p.data.toList.length = p.size := (Lib.size_eq p).symm
  have hx : (s.extract (k + p.size) s.size).data.toList = s.data.toList.drop (k + p.size) := Lib.extract_to_end ..
  rw [sgl_list, count_hit hpe h, Nat.add_comm 1, replaceK_hit _ _ _ _ k h, ByteArray.data_append, ByteArray.data_append, Array.toList_append, Array.toList_append, sgl_list, hx, hl, Lib.extract_data]
  simp

def SomeS (x : ByteArray) (w : World) (e : Ending) (w' : World) : Prop := e = .returned (.string x) ∧ Below w.heap.size w w'
set_option maxHeartbeats 1000000 in
theorem Single (p v s : ByteArray) (w : World) (h1 : 1 ≤ p.size) (hk : p.size + v.size + s.size ≤ 1048576) :
    Calls Try.prog 28 #[.string p, .string v, .string s] w (SomeS (sgl p v s) w) := by
  have hc := count_le s p h1
  have hm : (Lib.count s.data.toList p.data.toList + 1) * v.size ≤ 1048577 * 1048576 := Nat.mul_le_mul (by omega) (by omega)
  have Hm := Lib.hid hm
  clear hm
  have H1 : Hid (Calls Try.prog 41 #[.string p, .string v, .string s] w (SomeS (sgl p v s) w)) := Lib.hid (by
    go_enter Try.func41, Try.ntmps41
    go_wp2_with fail
    refine (makeSingle p v _ (by omega) h1).mono ?_
    rintro e w1 ⟨R, F, G, S, rfl, hA, hB, _, _, _⟩
    have HA := Lib.hid hA
    have HB := Lib.hid hB
    clear hA hB
    go_wp2_with fail
    refine (sgReplace R F G p v s S w1 HA.out (by omega) h1 (by omega) _ rfl (by have := Hm.out; omega)).mono ?_
    rintro e w2 ⟨rfl, hB2⟩
    have HB2 := Lib.hid (HB.out.trans (hB2.mono HB.out.size))
    clear hB2
    go_wp2_with fail
    go_ret
    exact ⟨rfl, HB2.out⟩)
  go_enter Try.func28, Try.ntmps28
  go_wp2_with fail
  refine H1.out.mono ?_
  rintro e w1 ⟨rfl, hB⟩
  have HB := Lib.hid hB
  clear hB
  go_wp2_with fail
  go_ret
  exact ⟨rfl, HB.out⟩

set_option maxRecDepth 100000 in
set_option maxHeartbeats 4000000 in
theorem walk_FnSingleStep (p v s : ByteArray) (w : World) (_hp : p.size ≤ maxLen) (_hv : v.size ≤ maxLen) (_hs : s.size ≤ maxLen) (hk : p.size + v.size + s.size ≤ 1048576) :
    Calls Try.prog 5 #[.string p, .string v, .string s] w fun e w' => e = .returned (.bool true) ∧ Below w.heap.size w w' := by
  have b1 : p.size < 2147483648 := by omega
  have b2 : v.size < 2147483648 := by omega
  have b3 : s.size < 2147483648 := by omega
  by_cases h0 : p.size = 0
  · rw [emptyB p h0]
    go_enter Try.func5, Try.ntmps5
    go_wp2
    go_ret
    exact ⟨rfl, Below.refl _ _⟩
  have h1 : 1 ≤ p.size := by omega
  have hne := neB (c := p) h1
  have HI := Lib.hid (SpIndex s p w (by omega) (by omega))
  rcases index_spec s.data.toList p.data.toList with ⟨hi, _⟩ | ⟨k, hi, hr, ho, _⟩
  · have HS := Lib.hid (sgl_none p v s hi)
    rw [hi] at HI
    go_enter Try.func5, Try.ntmps5
    go_wp2_with fail
    refine HI.out.mono ?_
    rintro e w1 ⟨rfl, rfl⟩
    go_wp2_with fail
    refine (Single p v s _ h1 hk).mono ?_
    rintro e w2 ⟨rfl, hB⟩
    rw [HS.out]
    have HB := Lib.hid hB
    clear hB
    go_wp2_with fail
    go_ret
    exact ⟨rfl, HB.out⟩
  · have hlen : k + p.size ≤ s.size := ((occ_iff s p k (by omega)).1 ho).1
    have HS := sgl_some p v s h1 k hi
    have hYs := sgl_size p v (s.extract (k + p.size) s.size) h1 (by rw [ByteArray.size_extract]; omega)
    have hrest : p.size + v.size + (s.extract (k + p.size) s.size).size ≤ 1048576 := by rw [ByteArray.size_extract]; omega
    rw [hi] at HI
    have HX := fun W => Lib.hid (Single p v s W h1 hk)
    have HY := fun W => Lib.hid (Single p v (s.extract (k + p.size) s.size) W h1 hrest)
    obtain ⟨X, hX⟩ : ∃ X, X = sgl p v s := ⟨_, rfl⟩
    obtain ⟨Y, hY⟩ : ∃ Y, Y = sgl p v (s.extract (k + p.size) s.size) := ⟨_, rfl⟩
    rw [← hY] at HS HY hYs
    rw [← hX] at HS HX
    have hbeq : (X.toList == (s.extract 0 k ++ v ++ Y).toList) = true := (Lib.bytes_beq_iff _ _).2 HS
    have HX' := Lib.hid HX
    have HY' := Lib.hid HY
    clear HX HY hX hY HS hrest hi
    have c1 : (0 : Int) ≤ (k : Int) := by omega
    have c2 : (k : Int) ≤ (s.size : Int) := by omega
    have c3 : (k : Int) + (p.size : Int) ≤ (s.size : Int) := by omega
    have c4 : ¬ ((k : Int) < 0) := by omega
    go_enter Try.func5, Try.ntmps5
    go_wp2_with fail
    refine HI.out.mono ?_
    rintro e w1 ⟨rfl, rfl⟩
    go_wp2_with fail
    have d0 : min k s.size + v.size + Y.size ≤ 4611686018427387904 := by omega
    have d1 : (0 : Int) ≤ (k : Int) + (p.size : Int) := by omega
    have d2 : ((k : Int) + (p.size : Int)).toNat = k + p.size := by omega
    have d3 : IntKind.i64.wrap ((k : Int) + (p.size : Int)) = (k : Int) + (p.size : Int) := IntWalk.i64_in _ (by omega)
    go_region_with (first | (go_at_call 28; (with_reducible refine (HX'.out _).out.mono ?_); rintro e w1 ⟨rfl, hB1⟩; have HB1 := Lib.hid hB1; clear hB1) | (go_at_call 28; (with_reducible refine (HY'.out _).out.mono ?_); rintro e w2 ⟨rfl, hB2⟩; have HB2 := Lib.hid hB2; clear hB2))
    go_wp2_with fail
    all_goals
      go_ret
      exact ⟨rfl, (((Below.refl w.heap.size w).drew).trans HB1.out).trans (HB2.out.mono HB1.out.size)⟩
end Go.Proofs.Ytnigbgablginnaa

/- Lines: the plain law, the iterator, the thin package's collecting loop, the reference. -/
import Derived.Test.YtggjdibahpnclaaIter
import Derived.Test.YtggjdibahpnclaaStrs
import Derived.Test.YtggjdibahpnclaaWStrIndexByte
import Derived.RegionIn
namespace Go.Proofs.Ytggjdibahpnclaa
open Go.RowKit Go.Lib
attribute [local go_sem] Oper.semAt_some

/-! ### plain -/
def linesFrom (s : ByteArray) : Nat → Nat → List ByteArray
  | 0, _ => []
  | f + 1, a => if s.size ≤ a then [] else if indexByte (s.data.toList.drop a) 10 < 0 then [s.extract a s.size]
    else s.extract a (a + (indexByte (s.data.toList.drop a) 10).toNat + 1) :: linesFrom s f (a + (indexByte (s.data.toList.drop a) 10).toNat + 1)
def linesAt (s : ByteArray) (a : Nat) : List ByteArray := linesFrom s (s.size + 1 - a) a

theorem linesFrom_more (s : ByteArray) : ∀ f a, s.size + 1 - a ≤ f → linesFrom s (f + 1) a = linesFrom s f a
  | 0, a, h => by
    unfold linesFrom
    rw [if_pos (by omega)]
  | f + 1, a, h => by
    conv => lhs; unfold linesFrom
    conv => rhs; unfold linesFrom
    split
    · rfl
    · split
      · rfl
      · rw [linesFrom_more s f _ (by omega)]
theorem linesFrom_eq (s : ByteArray) (a : Nat) : ∀ f, s.size + 1 - a ≤ f → linesFrom s f a = linesAt s a := by
  intro f hf
  obtain ⟨d, rfl⟩ : ∃ d, f = s.size + 1 - a + d := ⟨f - (s.size + 1 - a), by omega⟩
  clear hf
  induction d with
  | zero => rfl
  | succ d ih => rw [← Nat.add_assoc, linesFrom_more s _ a (by omega)]; exact ih
theorem linesAt_end (s : ByteArray) (a : Nat) (h : s.size ≤ a) : linesAt s a = [] := by
  unfold linesAt
  rcases Nat.eq_or_lt_of_le h with h' | h'
  · rw [show s.size + 1 - a = 0 + 1 by omega]; unfold linesFrom; rw [if_pos h]
  · rw [show s.size + 1 - a = 0 by omega]; rfl
theorem linesAt_last (s : ByteArray) (a : Nat) (h : a < s.size) (hi : indexByte (s.data.toList.drop a) 10 = -1) : linesAt s a = [s.extract a s.size] := by
  unfold linesAt
  rw [show s.size + 1 - a = (s.size - a) + 1 by omega]; unfold linesFrom; rw [if_neg (by omega), if_pos (by omega)]
theorem linesAt_cons (s : ByteArray) (a k : Nat) (h : a < s.size) (hi : indexByte (s.data.toList.drop a) 10 = k) : linesAt s a = s.extract a (a + k + 1) :: linesAt s (a + k + 1) := by
  conv => lhs; unfold linesAt
  rw [show s.size + 1 - a = (s.size - a) + 1 by omega]; unfold linesFrom; rw [if_neg (by omega), if_neg (by omega), hi, Int.toNat_natCast, linesFrom_eq s _ _ (by omega)]

theorem ib_cases (l : List UInt8) (c : UInt8) : indexByte l c = -1 ∨ ∃ k : Nat, indexByte l c = k ∧ k < l.length := by
  have hge := indexByte_ge l c
  by_cases h : indexByte l c = -1
  · exact .inl h
  · refine .inr ⟨(indexByte l c).toNat, by omega, ?_⟩
    have := (indexByte_some (l := l) (c := c) (o := (indexByte l c).toNat) (by omega)).1
    exact (List.getElem?_eq_some_iff.1 this).1

theorem ext_ext_to (s : ByteArray) (a k : Nat) (h : a + k ≤ s.size) : (s.extract a s.size).extract 0 k = s.extract a (a + k) := by
  apply ByteArray.ext; apply Array.toList_inj.1
  rw [extract_data, extract_data, extract_data]
  simp only [List.drop_zero, Nat.sub_zero]
  rw [List.take_take, Nat.min_eq_left (by omega), show a + k - a = k by omega]
theorem ext_ext_from (s : ByteArray) (a k : Nat) (h : a + k ≤ s.size) : (s.extract a s.size).extract k (s.extract a s.size).size = s.extract (a + k) s.size := by
  apply ByteArray.ext; apply Array.toList_inj.1
  have hz : (s.extract a s.size).size = s.size - a := by rw [ByteArray.size_extract]; omega
  rw [extract_data, extract_data, extract_data, hz, List.drop_take, List.drop_drop, List.take_take]
  congr 1
  omega

/-! ### the iterator -/
theorem gIndexByte (s : ByteArray) (c : Int) (w : World) (h0 : 0 ≤ c) (h1 : c ≤ 255) (hs : s.size < 4294967281) :
    Calls Try.prog 42 #[.string s, .int .u8 c] w fun e w' => e = .returned (.int .i64 (Lib.indexByte s.data.toList c.toNat.toUInt8)) ∧ w = w' := by
  go_enter Try.func42, Try.ntmps42
  go_wp2_with (first | (go_at_call 77; refine (IndexByteString s c _ h0 h1 hs).mono ?_; rintro e w' ⟨rfl, rfl⟩) | go_in)
  go_ret
  exact ⟨rfl, rfl⟩
set_option maxRecDepth 100000 in
set_option maxHeartbeats 2000000 in
theorem lines_iter (n : Nat) (hn : 1 ≤ n) (Bs : Nat) (s : ByteArray) (w : World) (hs : s.size < 4294967281) (hb : Boxed w Bs 9 (.string s)) :
    SeqAll Fence.wide n Try.prog 62 #[.pointer (some ⟨Bs, 0, none⟩)] (fun x : ByteArray => #[Value.string x]) Bs (linesAt s 0) w := by
  intro l J W hW hJs hJd hY h0
  have hb0 : Boxed W Bs 9 (.string s) := hW.trans hb
  refine callsIn_of_wp Try.func62 rfl trivial ?_ rfl
  simp only [Try.ntmps62, List.size_toArray, List.length_cons, List.length_nil, Nat.reduceAdd, Nat.reduceSub, Array.replicate_succ, Array.replicate_zero, List.push_toArray, List.append_toArray, List.nil_append, List.cons_append]
  gi_wp2
  gi_loopw [3, 4] (fun _ _ wr => ∃ (a : Nat) (pre : List ByteArray), a ≤ s.size ∧ Boxed wr Bs 9 (.string (s.extract a s.size)) ∧ pre ++ linesAt s a = linesAt s 0 ∧ J pre wr)
    (fun _ _ wr => match wr.cell? ⟨Bs, 0, none⟩ with | some (.string z) => z.size | _ => 0)
  case atStart => exact ⟨0, [], Nat.zero_le _, by rw [show s.extract 0 s.size = s from ByteArray.extract_zero_size]; exact hb0, rfl, h0⟩
  case round =>
    obtain ⟨a, pre, ha, hbx, hpre, hJ⟩ := hrel
    have hcell := hbx.cell
    have hfr := hbx.frozen
    have hz : (s.extract a s.size).size = s.size - a := by rw [ByteArray.size_extract]; omega
    obtain ⟨z, hzd⟩ : ∃ z, z = s.extract a s.size := ⟨_, rfl⟩
    rw [← hzd] at hbx hcell hz
    by_cases hend : s.size ≤ a
    · have hze : z = ByteArray.empty := by
        apply ByteArray.ext; apply Array.toList_inj.1; apply List.length_eq_zero_iff.1
        rw [Array.length_toList]; show z.size = 0; omega
      subst hze
      gi_wp2
      go_end0
      rw [linesAt_end s a hend, List.append_nil] at hpre
      exact ⟨⟨_, rfl⟩, hpre ▸ hJ⟩
    · have hzz : 0 < z.size := by omega
      have hzs : z.size < 4294967281 := by omega
      have hzl : z.data.toList = s.data.toList.drop a := by rw [hzd, extract_data]; exact List.take_of_length_le (by simp [ByteArray.size_data])
      rcases ib_cases z.data.toList 10 with hm | ⟨k, hk, hkl⟩
      · have hla := linesAt_last s a (by omega) (by rw [← hzl]; exact hm)
        rw [← hzd] at hla
        rw [hla] at hpre
        obtain ⟨fn, tmps, assign, body, hy, hR⟩ := hY pre z (wr.setCell ⟨Bs, 0, none⟩ (.string ⟨#[]⟩)) (hJs _ _ _ hJ) (by rw [← hpre]; simp)
        have hm' : indexByte z.data.toList (10 : Int).toNat.toUInt8 = -1 := hm
        clear hzd
        gi_wp2_with ((refine ⟨trivial, ?_⟩); refine (callsIn_wide.2 (gIndexByte z 10 wr (by decide) (by decide) hzs)).mono ?_; rw [hm']; rintro e w' ⟨rfl, rfl⟩)
        refine hR.mono ?_
        rintro e W3 ⟨rfl, hJ3, hB3⟩
        have hbx3 : Boxed W3 Bs 9 (.string ⟨#[]⟩) := hB3.trans (hbx.set _)
        gi_wp2
        go_roundw
        case rel => exact ⟨s.size, pre ++ [z], Nat.le_refl _, by rw [show s.extract s.size s.size = ByteArray.empty from by apply ByteArray.ext; apply Array.toList_inj.1; rw [extract_data]; simp]; exact hbx3, by rw [linesAt_end s _ (Nat.le_refl _), List.append_nil]; exact hpre, hJ3⟩
        case measure => rw [hcell, hbx3.cell]; exact hzz
      · have hkz : k < z.size := by simpa using hkl
        have hla := linesAt_cons s a k (by omega) (by rw [← hzl]; exact hk)
        have hxt := ext_ext_to s a (k + 1) (by omega)
        have hxf := ext_ext_from s a (k + 1) (by omega)
        rw [← hzd] at hxt hxf
        have hk' : indexByte z.data.toList (10 : Int).toNat.toUInt8 = k := hk
        clear hzd
        have hkz' : k + 1 ≤ z.size := hkz
        gi_wp2_with (first | ((refine ⟨trivial, ?_⟩); refine (callsIn_wide.2 (gIndexByte z 10 wr (by decide) (by decide) hzs)).mono ?_; rw [hk']; rintro e w' ⟨rfl, rfl⟩))
        rw [hz] at hxf
        obtain ⟨fn, tmps, assign, body, hy, hR⟩ := hY pre (s.extract a (a + (k + 1))) (wr.setCell ⟨Bs, 0, none⟩ (.string (s.extract (a + (k + 1)) s.size))).drew (hJd _ _ (hJs _ _ _ hJ)) (by rw [← hpre, hla]; simp)
        gi_region
        gi_wp2
        refine hR.mono ?_
        rintro e W3 ⟨rfl, hJ3, hB3⟩
        have hbx3 : Boxed W3 Bs 9 (.string (s.extract (a + (k + 1)) s.size)) := hB3.trans (hbx.set _)
        gi_wp2
        go_roundw
        case rel => exact ⟨a + (k + 1), pre ++ [s.extract a (a + (k + 1))], by omega, hbx3, by rw [List.append_assoc, ← hpre, hla]; rfl, hJ3⟩
        case measure => rw [hcell, hbx3.cell]; show (s.extract (a + (k + 1)) s.size).size < z.size; rw [ByteArray.size_extract]; omega
end Go.Proofs.Ytggjdibahpnclaa

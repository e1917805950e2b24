/- FnBytCut: both cuts under one answer; the walk. -/
import Derived.Test.YtiggomaoijamhaaBytCut
import Derived.Test.YtiggomaoijamhaaWBytContains
namespace Go.Proofs.Ytiggomaoijamhaa
open Go.RowKit Go.Lib

theorem lastOcc_cases (l m : List UInt8) : ∀ k, lastOcc l m k = -1 ∨ ∃ j : Nat, lastOcc l m k = j ∧ j < k
  | 0 => .inl rfl
  | k + 1 => by
    cases h : occAt l m k with
    | true => exact .inr ⟨k, lastOcc_hit l m k h, by omega⟩
    | false =>
      rw [lastOcc_miss l m k h]
      exact (lastOcc_cases l m k).imp id fun ⟨j, h1, h2⟩ => ⟨j, h1, by omega⟩
theorem last_cases (s sub : ByteArray) : lastIndex s.data.toList sub.data.toList = -1 ∨ ∃ k : Nat, lastIndex s.data.toList sub.data.toList = k ∧ k + sub.size ≤ s.size := by
  have e1 := Lib.size_eq s
  have e2 := Lib.size_eq sub
  unfold lastIndex
  split
  · rename_i hle
    rcases lastOcc_cases s.data.toList sub.data.toList (s.data.toList.length - sub.data.toList.length + 1) with h | ⟨j, h1, h2⟩
    · exact .inl h
    · exact .inr ⟨j, h1, by omega⟩
  · exact .inl rfl

theorem cutBoth (s t : ByteArray) (zs : s.size < 4294967281) (zt : t.size < 4294967281) : ∃ p q f,
    (∀ (b o c b' o' c' : Nat) (w : World), Hid (Lib.Bytes w b o s) → Hid (Lib.Bytes w b' o' t) → b < w.heap.size → b' < w.heap.size → Calls Try.prog 17 #[.slice (some ⟨b, o, none⟩) s.size c, .slice (some ⟨b', o', none⟩) t.size c'] w fun e w' => e = .returned (PartsOf p q f) ∧ Below w.heap.size w w') ∧
    (∀ w, Calls Try.prog 18 #[.string s, .string t] w fun e w' => e = .returned (PartsOf p q f) ∧ Below w.heap.size w w') := by
  rcases index_cases s t with ⟨h, _⟩ | ⟨k, h, hk, _⟩
  · exact ⟨s, ByteArray.empty, false, fun b o c b' o' c' w h1 h2 h3 h4 => BytCut_no s t b o c b' o' c' w zs zt h1 h2 h3 h4 h, fun w => StrCut_no s t w zs h⟩
  · exact ⟨_, _, true, fun b o c b' o' c' w h1 h2 h3 h4 => BytCut_yes s t k b o c b' o' c' w zs zt h1 h2 h3 h4 h hk, fun w => StrCut_yes s t k w zs h hk⟩

theorem cutLastBoth (s t : ByteArray) (zs : s.size < 4294967281) (zt : t.size < 4294967281) : ∃ p q f,
    (∀ (b o c b' o' c' : Nat) (w : World), Hid (Lib.Bytes w b o s) → Hid (Lib.Bytes w b' o' t) → b < w.heap.size → b' < w.heap.size → Calls Try.prog 19 #[.slice (some ⟨b, o, none⟩) s.size c, .slice (some ⟨b', o', none⟩) t.size c'] w fun e w' => e = .returned (PartsOf p q f) ∧ Below w.heap.size w w') ∧
    (∀ w, Calls Try.prog 20 #[.string s, .string t] w fun e w' => e = .returned (PartsOf p q f) ∧ Below w.heap.size w w') := by
  rcases last_cases s t with h | ⟨k, h, hk⟩
  · exact ⟨s, ByteArray.empty, false, fun b o c b' o' c' w h1 h2 h3 h4 => BytCutLast_no s t b o c b' o' c' w zs zt h1 h2 h3 h4 h, fun w => StrCutLast_no s t w zs h⟩
  · exact ⟨_, _, true, fun b o c b' o' c' w h1 h2 h3 h4 => BytCutLast_yes s t k b o c b' o' c' w zs zt h1 h2 h3 h4 h hk, fun w => StrCutLast_yes s t k w zs h hk⟩

theorem parts_eq (p q : ByteArray) (f : Bool) (W : World) : (binOp .eql 29 (.agg #[.string p, .string q, .bool f]) (.agg #[.string p, .string q, .bool f])).run Try.prog W = .ok (.bool true) W := by
  simp [go_sem]

set_option maxHeartbeats 4000000 in
theorem walk_FnBytCut (a b : ByteArray) (w : World) (ha : a.size ≤ maxLen) (hb : b.size ≤ maxLen) :
    Calls Try.prog 6 #[.string a, .string b] w fun e w' => e = .returned (.bool true) ∧ Below w.heap.size w w' := by
  unfold maxLen at ha hb
  have hfd : ∀ (p q : ByteArray) (b : Bool) (W : World), (Instr.field 29 (.agg #[.string p, .string q, .bool b]) 2).run Try.prog W = .ok (.bool b) W := fun p q b W => by kernel_rfl
  by_cases hbig : 2147483647 < a.size
  · go_enter Try.func6, Try.ntmps6
    go_wp2
    go_ret
    exact ⟨rfl, Below.refl _ _⟩
  · by_cases hbig2 : 2147483647 < b.size
    · go_enter Try.func6, Try.ntmps6
      go_wp2
      go_ret
      exact ⟨rfl, Below.refl _ _⟩
    · obtain ⟨c1, W1, c2, W2, k1, k2, HA, HB, lt2, bel⟩ := cvBB w a b
      obtain ⟨p, q, f, B1, S1⟩ := cutBoth a b (by omega) (by omega)
      obtain ⟨p', q', f', B2, S2⟩ := cutLastBoth a b (by omega) (by omega)
      unfold PartsOf at B1 S1 B2 S2
      have e1 := parts_eq p q f
      have e2 := parts_eq p' q' f'
      go_enter Try.func6, Try.ntmps6
      go_wp2_with fail
      refine (B1 _ _ _ _ _ _ _ HA HB (by omega) (by omega)).mono ?_
      rintro e w3 ⟨rfl, bel3⟩
      go_wp2_with fail
      refine (S1 _).mono ?_
      rintro e w4 ⟨rfl, bel4⟩
      have X3 := bel.out.trans (bel3.mono bel.out.size)
      have B3 := Lib.hid (X3.trans (bel4.mono X3.size))
      clear bel bel3 bel4 X3 k1 k2 HA HB lt2
      obtain ⟨c1, W1, c2, W2, k1, k2, HA, HB, lt2, bel⟩ := cvBB w4 a b
      go_wp2_with fail
      refine (B2 _ _ _ _ _ _ _ HA HB (by omega) (by omega)).mono ?_
      rintro e w5 ⟨rfl, bel5⟩
      go_wp2_with fail
      refine (S2 _).mono ?_
      rintro e w6 ⟨rfl, bel6⟩
      have X5 := bel.out.trans (bel5.mono bel.out.size)
      have B5 := Lib.hid (B3.out.trans ((X5.trans (bel6.mono X5.size)).mono B3.out.size))
      clear bel bel5 bel6 X5 k1 k2 HA HB lt2
      have q1 := cvC w6 #[.int .u8 97, .int .u8 98] 2 2 _ rfl
      have q2 := fun fr => cvC (w6.alloc (.cells #[.int .u8 97, .int .u8 98] 5 fr)) #[.int .u8 98] 1 1 (w6.heap.size + 1) (by simp)
      go_wp2_with fail
      obtain ⟨W4, hW4, H1, H2, l4, bel4'⟩ := two_consts w6 ⟨#[97, 98]⟩ ⟨#[98]⟩ #[.int .u8 97, .int .u8 98] #[.int .u8 98] (2, 3) (1, 2) rfl rfl
      rw [← hW4]
      clear hW4 q1 q2
      refine (BytCut_yes ⟨#[97, 98]⟩ ⟨#[98]⟩ 1 w6.heap.size 0 2 (w6.heap.size + 1) 0 1 W4 (by decide) (by decide) H1 H2 (by omega) l4 (by decide) (by decide)).mono ?_
      rintro e w7 ⟨rfl, bel7⟩
      unfold PartsOf
      go_wp2_with fail
      go_ret
      exact ⟨rfl, B5.out.trans ((bel4'.mono B5.out.size).trans (bel7.mono (Nat.le_trans B5.out.size bel4'.size)))⟩
end Go.Proofs.Ytiggomaoijamhaa

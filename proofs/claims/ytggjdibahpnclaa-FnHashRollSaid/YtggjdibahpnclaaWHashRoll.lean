/- The walk of FnHashRoll. -/
import Derived.Test.YtggjdibahpnclaaRk
import Derived.Test.YtggjdibahpnclaaWStrIndexByte
namespace Go.Proofs.Ytggjdibahpnclaa
open Go.RowKit Go.Lib

/-- The hash of a text, its factor. -/
def HashIs (s : ByteArray) (h p : Int) : Prop := h = RK.H s.data.toList % 4294967296 ∧ p = 16777619 ^ s.size % 4294967296

set_option maxHeartbeats 400000 in
theorem Hash (s : ByteArray) (w : World) (hs : s.size < 4294967281) :
    Calls Try.prog 18 #[.string s] w fun e w' => ∃ h p, 0 ≤ h ∧ h < 4294967296 ∧ 0 ≤ p ∧ p < 4294967296 ∧ Hid (HashIs s h p) ∧ e = .returned (.tuple #[.int .u32 h, .int .u32 p]) ∧ w = w' := by
  obtain ⟨hh, Hh⟩ : ∃ hh : Int, hh = RK.H s.data.toList % 4294967296 := ⟨_, rfl⟩
  obtain ⟨pw, Hp⟩ : ∃ pw : Int, pw = 16777619 ^ s.size % 4294967296 := ⟨_, rfl⟩
  have hc : ∀ w, Calls Try.prog 61 #[.string s] w fun e w' => e = .returned (.tuple #[.int .u32 hh, .int .u32 pw]) ∧ w = w' := fun w => by rw [Hh, Hp]; exact hashStr s hs w
  have HH : Hid (HashIs s hh pw) := ⟨Hh, Hp⟩
  have b : 0 ≤ hh ∧ hh < 4294967296 ∧ 0 ≤ pw ∧ pw < 4294967296 := ⟨by omega, by omega, by omega, by omega⟩
  clear Hh Hp
  refine Calls.mono (R := fun e w' => e = .returned (.tuple #[.int .u32 hh, .int .u32 pw]) ∧ w = w') ?_ (fun e w' h => ⟨hh, pw, b.1, b.2.1, b.2.2.1, b.2.2.2, HH, h⟩)
  clear b
  go_enter Try.func18, Try.ntmps18
  go_wp2_with (first | (go_at_call 61; refine (hc _).mono ?_; rintro e w' ⟨rfl, rfl⟩) | go_in)
  go_ret2
  exact ⟨rfl, rfl⟩

theorem one_byte' (W : World) (c : Int) :
    (convert 23 9 (.slice (some ⟨W.heap.size, 0, none⟩) 1 1)).run Try.prog (W.alloc (.cells #[.int .u8 c] 5)) = .ok (.string ⟨#[UInt8.ofNat c.toNat]⟩) (W.alloc (.cells #[.int .u8 c] 5)) := by
  rw [run_convert_bytes_arg _ 23 5 Try.underlying23 Try.underlying5 W.heap.size 0 1 1 [c] rfl (fun i hi => by
    obtain rfl : i = 0 := by omega
    simp) 9 Try.underlying9]
  rfl

theorem roll_plain (a b : Int) (s : ByteArray) (a0 : 0 ≤ a) (a1 : a ≤ 255) (b0 : 0 ≤ b) (b1 : b ≤ 255) {h1 p1 h2 p2 h3 p3 : Int} (H1 : HashIs (⟨#[UInt8.ofNat a.toNat]⟩ ++ s) h1 p1) (H2 : HashIs (s ++ ⟨#[UInt8.ofNat b.toNat]⟩) h2 p2) (H3 : HashIs (⟨#[UInt8.ofNat a.toNat]⟩ ++ s) h3 p3) :
    h2 = (h1 * 16777619 + b - p3 * a) % 4294967296 := by
  have e1 : (⟨#[UInt8.ofNat a.toNat]⟩ ++ s : ByteArray).data.toList = UInt8.ofNat a.toNat :: s.data.toList := by simp
  have e2 : (s ++ ⟨#[UInt8.ofNat b.toNat]⟩ : ByteArray).data.toList = s.data.toList ++ [UInt8.ofNat b.toNat] := by simp
  have e3 : (⟨#[UInt8.ofNat a.toNat]⟩ ++ s : ByteArray).size = s.data.toList.length + 1 := by
    rw [ByteArray.size_append]; show 1 + s.size = _; simp; omega
  have ua : ((UInt8.ofNat a.toNat).toNat : Int) = a := u8_back a a0 a1
  have ub : ((UInt8.ofNat b.toNat).toNat : Int) = b := u8_back b b0 b1
  have g1 := H1.1
  rw [e1] at g1
  have g3 := H3.2
  rw [e3] at g3
  have r := RK.roll_mod (UInt8.ofNat a.toNat) (UInt8.ofNat b.toNat) s.data.toList g1 g3
  rw [ua, ub, show a % 4294967296 = a by omega] at r
  rw [r, H2.1, e2]

set_option maxHeartbeats 1000000 in
theorem walk_FnHashRoll (a : Int) (s : ByteArray) (b : Int) (w : World) (ha : (Lit.int .u8 a).wf = true) (hs : s.size ≤ maxLen) (hb : (Lit.int .u8 b).wf = true) :
    Calls Try.prog 5 #[.int .u8 a, .string s, .int .u8 b] w fun e w' => e = .returned (.bool true) ∧ Below w.heap.size w w' := by
  unfold maxLen at hs
  obtain ⟨a0, a1⟩ := wf_u8 ha
  obtain ⟨b0, b1⟩ := wf_u8 hb
  by_cases hbig : 2147483647 < s.size
  · go_enter Try.func5, Try.ntmps5
    go_wp2
    go_ret
    exact ⟨rfl, Below.refl _ _⟩
  · have k1 := one_byte' w a
    have k2 := one_byte' (w.alloc (.cells #[.int .u8 a] 5)) b
    have k3 := one_byte' ((w.alloc (.cells #[.int .u8 a] 5)).alloc (.cells #[.int .u8 b] 5)) a
    simp only [World.size_alloc] at k2 k3
    have z1 : (⟨#[UInt8.ofNat a.toNat]⟩ ++ s : ByteArray).size < 4294967281 := by rw [ByteArray.size_append]; show 1 + s.size < _; omega
    have z2 : (s ++ ⟨#[UInt8.ofNat b.toNat]⟩ : ByteArray).size < 4294967281 := by rw [ByteArray.size_append]; show s.size + 1 < _; omega
    go_enter Try.func5, Try.ntmps5
    go_wp2_with fail
    refine (Hash _ _ z1).mono ?_
    rintro e w1 ⟨h1, p1, x0, x1, y0, y1, H1, rfl, rfl⟩
    go_wp2_with fail
    refine (Hash _ _ z2).mono ?_
    rintro e w2 ⟨h2, p2, x20, x21, y20, y21, H2, rfl, rfl⟩
    go_wp2_with fail
    refine (Hash _ _ z1).mono ?_
    rintro e w3 ⟨h3, p3, x30, x31, y30, y31, H3, rfl, rfl⟩
    go_wp2_with fail
    refine (Hash _ _ (by decide)).mono ?_
    rintro e w4 ⟨h4, p4, x40, x41, y40, y41, H4, rfl, rfl⟩
    have e4 : p4 = 16777619 := H4.out.2.trans (by decide)
    subst e4
    go_wp2_with fail
    · go_ret
      exact ⟨rfl, (((Below.refl _ _).alloc (Nat.le_refl _) _).alloc (by simp) _).alloc (by simp; omega) _⟩
    · exfalso
      have hne : ¬ h2 = (h1 * 16777619 + b - p3 * a) % 4294967296 := by assumption
      exact hne (roll_plain a b s a0 a1 b0 b1 H1.out H2.out H3.out)
end Go.Proofs.Ytggjdibahpnclaa

/- The last place of a byte in a slice. -/
import Derived.Test.YtiggomaoijamhaaByt
namespace Go.Proofs.Ytiggomaoijamhaa
open Go.RowKit Go.Lib

/-- The last place below k at which sep stands, or -1. -/
def lastAt (s sep : ByteArray) : Nat → Int
  | 0 => -1
  | k + 1 => if atB s sep k = true then (k : Int) else lastAt s sep k
def lastB (s sep : ByteArray) : Int := lastAt s sep (s.size + 1)
theorem lastAt_hit {s sep : ByteArray} {k : Nat} (h : atB s sep k = true) : lastAt s sep (k + 1) = k := by simp [lastAt, h]
theorem lastAt_miss {s sep : ByteArray} {k : Nat} (h : atB s sep k = false) : lastAt s sep (k + 1) = lastAt s sep k := by simp [lastAt, h]

theorem lastAt_skip (s sep : ByteArray) (k : Nat) : ∀ d, (∀ j, k ≤ j → j < k + d → atB s sep j = false) → lastAt s sep (k + d) = lastAt s sep k
  | 0, _ => rfl
  | d + 1, h => by
    rw [show k + (d + 1) = (k + d) + 1 by omega, lastAt_miss (h (k + d) (by omega) (by omega))]
    exact lastAt_skip s sep k d (fun j h1 h2 => h j h1 (by omega))

theorem lastAt_occ (s sep : ByteArray) : ∀ k, k ≤ s.size + 1 → lastAt s sep k = lastOcc s.data.toList sep.data.toList k
  | 0, _ => rfl
  | k + 1, h => by
    unfold lastAt lastOcc
    rw [atB_occ s sep k (by omega), lastAt_occ s sep k (by omega)]

theorem lastB_eq (s sep : ByteArray) : lastB s sep = lastIndex s.data.toList sep.data.toList := by
  unfold lastB lastIndex
  have hl : s.data.toList.length = s.size := by simp
  have hp : sep.data.toList.length = sep.size := by simp
  rw [hl, hp]
  by_cases h : sep.size ≤ s.size
  · rw [if_pos h, ← lastAt_occ s sep _ (by omega)]
    have := lastAt_skip s sep (s.size - sep.size + 1) sep.size (fun j h1 h2 => atB_long s sep j (by omega))
    rw [← this, show s.size - sep.size + 1 + sep.size = s.size + 1 by omega]
  · rw [if_neg h]
    have := lastAt_skip s sep 0 (s.size + 1) (fun j h1 h2 => atB_long s sep j (by omega))
    rw [Nat.zero_add] at this
    rw [this]; rfl

theorem atB_one (s : ByteArray) (c : Int) (j : Nat) (hj : j < s.size) (h0 : 0 ≤ c) (h1 : c ≤ 255) : atB s ⟨#[c.toNat.toUInt8]⟩ j = decide ((s[j].toNat : Int) = c) := by
  rw [atB_occ s _ j (by omega)]
  have e : occAt s.data.toList [c.toNat.toUInt8] j = (s[j] == c.toNat.toUInt8) := by
    unfold occAt
    have hl : j < s.data.toList.length := by simpa using hj
    rw [List.drop_eq_getElem_cons hl, byte_at' s j hj hl]
    simp [List.isPrefixOf, Bool.beq_comm]
  show occAt s.data.toList [c.toNat.toUInt8] j = _
  rw [e]
  have ub := u8_back c h0 h1
  by_cases h : (s[j].toNat : Int) = c
  · rw [decide_eq_true h]
    have : s[j] = c.toNat.toUInt8 := UInt8.toNat_inj.1 (by omega)
    rw [this]; simp
  · rw [decide_eq_false h]
    have : ¬ s[j] = c.toNat.toUInt8 := fun e => h (by rw [e]; exact ub)
    simpa using this

theorem lastB_one (s : ByteArray) (c : Int) : lastB s ⟨#[c.toNat.toUInt8]⟩ = lastAt s ⟨#[c.toNat.toUInt8]⟩ s.size :=
  lastAt_miss (atB_long s _ s.size (by show (s.size : Int) < (s.size : Int) + ((1 : Nat) : Int); omega))

set_option maxHeartbeats 400000 in
theorem LastIndexByteB (s : ByteArray) (c : Int) (b o cap : Nat) (w : World) (h0 : 0 ≤ c) (h1 : c ≤ 255) (hs : s.size < 4294967281) (hB : Hid (Lib.Bytes w b o s)) :
    Calls Try.prog 49 #[.slice (some ⟨b, o, none⟩) s.size cap, .int .u8 c] w fun e w' => e = .returned (.int .i64 (lastB s ⟨#[c.toNat.toUInt8]⟩)) ∧ w = w' := by
  go_enter Try.func49, Try.ntmps49
  go_wp2
  go_loop [5] (fun i => ∃ (k : Nat) (n : Int), k ≤ s.size ∧ n = (k : Int) - 1 ∧ i = .int .i64 n ∧ Hid (lastB s ⟨#[c.toNat.toUInt8]⟩ = lastAt s ⟨#[c.toNat.toUInt8]⟩ k)) (fun i => (RowKit.intOf i + 1).toNat)
  case atStart => exact ⟨s.size, _, Nat.le_refl _, rfl, rfl, lastB_one s c⟩
  case round =>
    obtain ⟨k, n, hk, hn, rfl, hr⟩ := hrel
    by_cases h0' : 0 ≤ n
    · obtain ⟨j, rfl⟩ := Int.eq_ofNat_of_zero_le h0'
      obtain rfl : k = j + 1 := by omega
      clear hn h0'
      have hj : j < s.size := by omega
      have hcell := hB.out j hj
      have A := Lib.hid (atB_one s c j hj h0 h1)
      by_cases heq : (s[j].toNat : Int) = c
      · have hb : ((s[j].toNat : Int) == c) = true := by simpa using heq
        have H := Lib.hid heq
        clear heq
        go_wp2
        go_ret
        exact ⟨ret_int (by rw [hr.out, lastAt_hit (by rw [A.out]; exact decide_eq_true H.out)]), rfl⟩
      · have hb : ((s[j].toNat : Int) == c) = false := by simpa using heq
        have H := Lib.hid heq
        clear heq
        go_wp2
        go_round
        case rel => exact ⟨j, _, by omega, rfl, rfl, hr.out.trans (lastAt_miss (by rw [A.out]; exact decide_eq_false H.out))⟩
        case measure => simp [RowKit.intOf]
    · have hk0 : k = 0 := by omega
      have hx : n < 0 := by omega
      have H := Lib.hid hk0
      clear hn hk0
      go_wp2
      go_ret
      exact ⟨ret_int (by rw [hr.out, H.out]; rfl), rfl⟩
end Go.Proofs.Ytiggomaoijamhaa

/- Plain laws on bytes, and contracts of the byte searches over strings. -/
import Derived.Test.YtpaieadnicmplaaDoorRows
import Derived.WalkKit
import Derived.ProofKit
import Derived.OpenShut
import Derived.ShutString
import Derived.ChangeOld
import Derived.Below
import Derived.Outline
import Derived.WalkSpells
import Derived.WalkLawsBesides
import Derived.Lib.Hide
import Derived.Lib.Walk
import Derived.Lib.Strings
import Derived.Lib.Slices
import Derived.Lib.Bytealg
import Derived.BigCall
import Derived.BigGuard
import Derived.Deep.Draws
import Derived.Laws.Strings3
import Derived.Lib.IndexLaws
import Derived.Lib.IndexBytes
import Derived.Lib.LastIndexLaws
import Derived.Lib.RabinKarpLaws
namespace Go.Proofs.YtpaieadnicmplaaDoor
open Go.RowKit Go.Lib

/-! ### plain laws -/

def NoB (l : List UInt8) (c : UInt8) (k : Nat) : Prop := ∀ j, j < k → l[j]? ≠ some c

theorem NoB.zero (l : List UInt8) (c : UInt8) : NoB l c 0 := fun _ h => absurd h (Nat.not_lt_zero _)
theorem NoB.succ {l : List UInt8} {c : UInt8} {k : Nat} (h : NoB l c k) (hk : l[k]? ≠ some c) : NoB l c (k + 1) := fun j hj => by
  rcases Nat.lt_or_eq_of_le (Nat.le_of_lt_succ hj) with h' | rfl
  · exact h j h'
  · exact hk

theorem ib_hit : ∀ {l : List UInt8} {c : UInt8} {k : Nat}, NoB l c k → l[k]? = some c → indexByte l c = k
  | [], _, _, _, h => by simp at h
  | b :: l, c, 0, _, h => by
    have : b = c := by simpa using h
    subst this
    simp [indexByte]
  | b :: l, c, k + 1, hn, h => by
    have h0 : b ≠ c := by simpa using hn 0 (Nat.succ_pos k)
    have ih := ib_hit (l := l) (c := c) (k := k) (fun j hj => by simpa using hn (j + 1) (Nat.succ_lt_succ hj)) (by simpa using h)
    have e : (b == c) = false := by simpa using h0
    have e2 : ((k : Int) == -1) = false := by rw [beq_eq_false_iff_ne]; omega
    unfold indexByte
    rw [e, ih, e2]
    simp

theorem ib_miss : ∀ {l : List UInt8} {c : UInt8}, NoB l c l.length → indexByte l c = -1
  | [], _, _ => rfl
  | b :: l, c, hn => by
    have h0 : b ≠ c := by simpa using hn 0 (by simp)
    have ih := ib_miss (l := l) (c := c) (fun j hj => by simpa using hn (j + 1) (by simpa using hj))
    have e : (b == c) = false := by simpa using h0
    unfold indexByte
    rw [e, ih]
    rfl

theorem u8_back (c : Int) (h0 : 0 ≤ c) (h1 : c ≤ 255) : (c.toNat.toUInt8.toNat : Int) = c := by
  have : c.toNat.toUInt8.toNat = c.toNat := by
    show c.toNat % 256 = c.toNat
    omega
  omega

theorem at_eq (s : ByteArray) (k : Nat) (hk : k < s.size) (c : Int) (h0 : 0 ≤ c) (h1 : c ≤ 255) (h : (s[k].toNat : Int) = c) : s.data.toList[k]? = some c.toNat.toUInt8 := by
  rw [byte_at s k hk]
  have := u8_back c h0 h1
  exact congrArg some (UInt8.toNat_inj.1 (by omega))
theorem at_ne (s : ByteArray) (k : Nat) (hk : k < s.size) (c : Int) (h0 : 0 ≤ c) (h1 : c ≤ 255) (h : ¬ (s[k].toNat : Int) = c) : s.data.toList[k]? ≠ some c.toNat.toUInt8 := by
  rw [byte_at s k hk]
  have := u8_back c h0 h1
  intro e
  have e2 := congrArg UInt8.toNat (Option.some.inj e)
  omega

theorem ret_int {k : IntKind} {a b : Int} (h : a = b) : Ending.returned (.int k a) = .returned (.int k b) := by rw [h]
theorem ret_bool {a b : Bool} (h : a = b) : Ending.returned (.bool a) = .returned (.bool b) := by rw [h]
theorem ret_str {a b : ByteArray} (h : a = b) : Ending.returned (.string a) = .returned (.string b) := by rw [h]

set_option maxHeartbeats 400000 in
theorem IndexByteString (s : ByteArray) (c : Int) (w : World) (h0 : 0 ≤ c) (h1 : c ≤ 255) (hs : s.size < 4294967281) :
    Calls Tryd.prog 60 #[.string s, .int .u8 c] w fun e w' => e = .returned (.int .i64 (Lib.indexByte s.data.toList c.toNat.toUInt8)) ∧ w = w' := by
  go_enter Tryd.func60, Tryd.ntmps60
  go_wp2
  go_loop [5] (fun i => ∃ k : Nat, k ≤ s.size ∧ i = .int .i64 k ∧ Hid (NoB s.data.toList c.toNat.toUInt8 k)) (fun i => s.size - (RowKit.intOf i).toNat)
  case atStart => exact ⟨0, Nat.zero_le _, rfl, NoB.zero _ _⟩
  case round =>
    obtain ⟨k, hk, rfl, hn⟩ := hrel
    by_cases hlt : k < s.size
    · by_cases heq : (s[k].toNat : Int) = c
      · have hb : ((s[k].toNat : Int) == c) = true := by simpa using heq
        have H := Lib.hid heq
        clear heq
        go_wp2
        go_ret
        exact ⟨ret_int (ib_hit hn.out (at_eq s k hlt c h0 h1 H.out)).symm, rfl⟩
      · have hb : ((s[k].toNat : Int) == c) = false := by simpa using heq
        have H := Lib.hid heq
        clear heq
        go_wp2
        go_round
        case rel => exact ⟨k + 1, by omega, by go_num, hn.out.succ (at_ne s k hlt c h0 h1 H.out)⟩
        case measure => simp [RowKit.intOf]; omega
    · go_wp2
      go_ret
      refine ⟨ret_int (ib_miss ?_).symm, rfl⟩
      have e : s.data.toList.length = k := by simp; omega
      rw [e]; exact hn.out

/-! ### SeAt, SeFirst, SeLast -/

def atB (s sep : ByteArray) (i : Int) : Bool := decide (0 ≤ i) && (decide (i + sep.size ≤ s.size) && occAt s.data.toList sep.data.toList i.toNat)

theorem atB_neg (s sep : ByteArray) (i : Int) (h : i < 0) : atB s sep i = false := by
  unfold atB; rw [decide_eq_false (by omega)]; rfl
theorem atB_long (s sep : ByteArray) (i : Int) (h : (s.size : Int) < i + sep.size) : atB s sep i = false := by
  unfold atB; rw [decide_eq_false (p := i + sep.size ≤ s.size) (by omega)]; simp
theorem atB_in (s sep : ByteArray) (k : Nat) (h : k + sep.size ≤ s.size) : atB s sep k = ((s.extract k (k + sep.size)).toList == sep.toList) := by
  unfold atB; rw [decide_eq_true (by omega), decide_eq_true (by omega), Int.toNat_natCast, occ_of_piece s sep k h]; rfl
theorem atB_occ (s sep : ByteArray) (k : Nat) (h : k ≤ s.size) : atB s sep k = occAt s.data.toList sep.data.toList k := by
  by_cases hl : k + sep.size ≤ s.size
  · unfold atB; rw [decide_eq_true (by omega), decide_eq_true (by omega), Int.toNat_natCast]; rfl
  · rw [atB_long s sep k (by omega)]
    cases ho : occAt s.data.toList sep.data.toList k with
    | false => rfl
    | true =>
      rcases occAt_room ho with h' | h'
      · simp at h'; omega
      · have : sep.size = 0 := by have := congrArg List.length h'; simpa using this
        omega

set_option maxHeartbeats 400000 in
theorem SeAt (s sep : ByteArray) (i : Int) (w : World) (hs : s.size < 4294967281) (hp : sep.size < 4294967281) (h0 : -4294967296 ≤ i) (h1 : i ≤ 4294967296) :
    Calls Tryd.prog 45 #[.string s, .string sep, .int .i64 i] w fun e w' => e = .returned (.bool (atB s sep i)) ∧ w = w' := by
  by_cases hneg : i < 0
  · have H := Lib.hid (atB_neg s sep i hneg)
    have hd : decide (0 ≤ i) = false := by simpa using hneg
    go_enter Tryd.func45, Tryd.ntmps45
    go_wp2
    go_ret
    exact ⟨ret_bool H.out.symm, rfl⟩
  · obtain ⟨k, rfl⟩ := Int.eq_ofNat_of_zero_le (show 0 ≤ i by omega)
    by_cases hl : k + sep.size ≤ s.size
    · have H := Lib.hid (atB_in s sep k hl)
      have hx : (k : Int) + sep.size ≤ s.size := by omega
      go_enter Tryd.func45, Tryd.ntmps45
      go_wp2
      go_ret
      exact ⟨ret_bool H.out.symm, rfl⟩
    · have H := Lib.hid (atB_long s sep k (by omega))
      have hx : (s.size : Int) < (k : Int) + sep.size := by omega
      go_enter Tryd.func45, Tryd.ntmps45
      go_wp2
      go_ret
      exact ⟨ret_bool H.out.symm, rfl⟩

/-- No place before k. -/
def NoAt (s sep : ByteArray) (k : Nat) : Prop := ∀ j : Nat, j < k → atB s sep j = false
theorem NoAt.zero (s sep : ByteArray) : NoAt s sep 0 := fun _ h => absurd h (Nat.not_lt_zero _)
theorem NoAt.succ {s sep : ByteArray} {k : Nat} (h : NoAt s sep k) (hk : atB s sep k = false) : NoAt s sep (k + 1) := fun j hj => by
  rcases Nat.lt_or_eq_of_le (Nat.le_of_lt_succ hj) with h' | rfl
  · exact h j h'
  · exact hk
theorem NoAt.hit {s sep : ByteArray} {k : Nat} (h : NoAt s sep k) (hk : k ≤ s.size) (ha : atB s sep k = true) : index s.data.toList sep.data.toList = k :=
  index_first (by simpa using hk) (by rw [← atB_occ s sep k hk]; exact ha) (fun j hj => by rw [← atB_occ s sep j (by omega)]; exact h j hj)
theorem NoAt.miss {s sep : ByteArray} {k : Nat} (h : NoAt s sep k) (hk : s.size < k) : index s.data.toList sep.data.toList = -1 :=
  index_none (fun j hj => by
    have hj' : j ≤ s.size := by simpa using hj
    rw [← atB_occ s sep j hj']; exact h j (by omega))


end Go.Proofs.YtpaieadnicmplaaDoor

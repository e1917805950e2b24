/- Plain laws on bytes, and contracts of the byte searches over strings. -/
import Derived.Test.YtnigbgablginnaaRows
import Derived.WalkKit
import Derived.ProofKit
import Derived.OpenShut
import Derived.ShutString
import Derived.ChangeOld
import Derived.Below
import Derived.Outline
import Derived.WalkSpells
import Derived.WalkLawsBesides
import Derived.Lib.Hide
import Derived.Lib.Walk
import Derived.Lib.Strings
import Derived.Lib.Slices
import Derived.Lib.Bytealg
import Derived.BigCall
import Derived.BigGuard
import Derived.Deep.Draws
import Derived.Laws.Strings3
import Derived.Lib.IndexLaws
import Derived.Lib.IndexBytes
import Derived.Lib.LastIndexLaws
import Derived.Lib.RabinKarpLaws
namespace Go.Proofs.Ytnigbgablginnaa
open Go.RowKit Go.Lib

/-! ### plain laws -/

def NoB (l : List UInt8) (c : UInt8) (k : Nat) : Prop := ∀ j, j < k → l[j]? ≠ some c

theorem NoB.zero (l : List UInt8) (c : UInt8) : NoB l c 0 := fun _ h => absurd h (Nat.not_lt_zero _)
theorem NoB.succ {l : List UInt8} {c : UInt8} {k : Nat} (h : NoB l c k) (hk : l[k]? ≠ some c) : NoB l c (k + 1) := fun j hj => by
  rcases Nat.lt_or_eq_of_le (Nat.le_of_lt_succ hj) with h' | rfl
  · exact h j h'
  · exact hk

theorem ib_hit : ∀ {l : List UInt8} {c : UInt8} {k : Nat}, NoB l c k → l[k]? = some c → indexByte l c = k
  | [], _, _, _, h => by simp at h
  | b :: l, c, 0, _, h => by
    have : b = c := by simpa using h
    subst this
    simp [indexByte]
  | b :: l, c, k + 1, hn, h => by
    have h0 : b ≠ c := by simpa using hn 0 (Nat.succ_pos k)
    have ih := ib_hit (l := l) (c := c) (k := k) (fun j hj => by simpa using hn (j + 1) (Nat.succ_lt_succ hj)) (by simpa using h)
    have e : (b == c) = false := by simpa using h0
    have e2 : ((k : Int) == -1) = false := by rw [beq_eq_false_iff_ne]; omega
    unfold indexByte
    rw [e, ih, e2]
    simp

theorem ib_miss : ∀ {l : List UInt8} {c : UInt8}, NoB l c l.length → indexByte l c = -1
  | [], _, _ => rfl
  | b :: l, c, hn => by
    have h0 : b ≠ c := by simpa using hn 0 (by simp)
    have ih := ib_miss (l := l) (c := c) (fun j hj => by simpa using hn (j + 1) (by simpa using hj))
    have e : (b == c) = false := by simpa using h0
    unfold indexByte
    rw [e, ih]
    rfl

theorem u8_back (c : Int) (h0 : 0 ≤ c) (h1 : c ≤ 255) : (c.toNat.toUInt8.toNat : Int) = c := by
  have : c.toNat.toUInt8.toNat = c.toNat := by
    show c.toNat % 256 = c.toNat
    omega
  omega

theorem at_eq (s : ByteArray) (k : Nat) (hk : k < s.size) (c : Int) (h0 : 0 ≤ c) (h1 : c ≤ 255) (h : (s[k].toNat : Int) = c) : s.data.toList[k]? = some c.toNat.toUInt8 := by
  rw [byte_at s k hk]
  have := u8_back c h0 h1
  exact congrArg some (UInt8.toNat_inj.1 (by omega))
theorem at_ne (s : ByteArray) (k : Nat) (hk : k < s.size) (c : Int) (h0 : 0 ≤ c) (h1 : c ≤ 255) (h : ¬ (s[k].toNat : Int) = c) : s.data.toList[k]? ≠ some c.toNat.toUInt8 := by
  rw [byte_at s k hk]
  have := u8_back c h0 h1
  intro e
  have e2 := congrArg UInt8.toNat (Option.some.inj e)
  omega

theorem ret_int {k : IntKind} {a b : Int} (h : a = b) : Ending.returned (.int k a) = .returned (.int k b) := by rw [h]
theorem ret_bool {a b : Bool} (h : a = b) : Ending.returned (.bool a) = .returned (.bool b) := by rw [h]
theorem ret_str {a b : ByteArray} (h : a = b) : Ending.returned (.string a) = .returned (.string b) := by rw [h]

/-! ### SeAt, SeFirst, SeLast -/

end Go.Proofs.Ytnigbgablginnaa

/- The search of the finder of Boyer and Moore. -/
import Derived.Test.YtnigbgablginnaaFinW
set_option linter.unusedVariables false
namespace Go.Proofs.Ytnigbgablginnaa
open Go.RowKit Go.Lib

theorem good_le {p : ByteArray} {T : Nat → Nat} {I : Nat} (h : GoodOk p T I) {j : Nat} (hj : j < p.size) : T j ≤ 2 * p.size := by
  have := (h j hj).2 p.size (by omega) ⟨fun k h1 h2 h3 => by omega, fun h1 => by omega⟩ (.inl hj)
  omega
theorem bc_le (p : ByteArray) (c : Nat) : bc p c ≤ p.size := bcTo_le p c _

theorem noOcc_all {s p : ByteArray} {P : Nat} (h1 : 1 ≤ p.size) (h : NoOcc s.data.toList p.data.toList P) (hP : s.size < P + p.size) : index s.data.toList p.data.toList = -1 := by
  refine index_none (fun j hj => ?_)
  by_cases hjP : j < P
  · exact h j hjP
  · cases ho : occAt s.data.toList p.data.toList j with
    | false => rfl
    | true => have := ((occ_iff s p j (by omega)).1 ho).1; omega
theorem noOcc_hit {s p : ByteArray} {P : Nat} (h1 : 1 ≤ p.size) (h : NoOcc s.data.toList p.data.toList P) (hP : P + p.size ≤ s.size) (he : ∀ k, 0 ≤ k → k < p.size → bt s (P + k) = bt p k) : index s.data.toList p.data.toList = P :=
  index_first (by simp; omega) ((occ_iff s p P (by omega)).2 ⟨hP, fun k hk => he k (Nat.zero_le _) hk⟩) (fun j hj => h j hj)

def SomeN (v : Value) (w : World) (e : Ending) (w' : World) : Prop := ∃ n : Nat, e = .returned v ∧ w' = w.drewN n

set_option maxRecDepth 100000 in
set_option maxHeartbeats 1000000 in
theorem finNext (F G : Nat) (s p : ByteArray) (S : Nat → Nat) (w : World) (hA : FinAt w F G p (bc p) S) (hG : GoodOk p S (p.size - 1)) (h1 : 1 ≤ p.size) (hp : p.size ≤ 2147483647) (hs : s.size < 140737488355328) :
    Calls Try.prog 59 #[.pointer (some ⟨F, 0, none⟩), .string s] w (SomeN (.int .i64 (index s.data.toList p.data.toList)) w) := by
  have HA := Lib.hid hA
  have HG := Lib.hid hG
  have c0 := hA.c0
  clear hA hG
  go_enter Try.func59, Try.ntmps59
  go_wp2_with fail
  clear c0
  go_loopw [5] (fun iv wr => ∃ P q : Nat, wr = w.drewN q ∧ iv = .int .i64 ((P : Int) + p.size - 1) ∧ P ≤ s.size + 3 * p.size ∧ Hid (NoOcc s.data.toList p.data.toList P)) (fun iv _ => (s.size + p.size - RowKit.intOf iv).toNat)
  case atStart => exact ⟨0, 0, rfl, by rw [show ((0 : Nat) : Int) + p.size - 1 = (p.size : Int) - 1 by omega], Nat.zero_le _, fun j h => absurd h (Nat.not_lt_zero _)⟩
  case round =>
    obtain ⟨P, q, rfl, rfl, hPb, hn⟩ := hrel
    by_cases hlt : P + p.size ≤ s.size
    · have hltz : (P : Int) + p.size - 1 < (s.size : Int) := by omega
      have c0 := (HA.out.drew q).c0
      go_wp2_with fail
      clear c0
      go_loopw [5, 6] (fun iv jv wr => ∃ m q : Nat, m ≤ p.size ∧ wr = w.drewN q ∧ iv = .int .i64 ((P : Int) + m - 1) ∧ jv = .int .i64 ((m : Int) - 1) ∧ Hid (∀ k, m ≤ k → k < p.size → bt s (P + k) = bt p k)) (fun _ jv _ => (RowKit.intOf jv + 1).toNat)
      case atStart => exact ⟨p.size, q, Nat.le_refl _, rfl, rfl, rfl, fun k h1 h2 => by omega⟩
      case round =>
        obtain ⟨m, q, hm, rfl, rfl, rfl, he⟩ := hrel
        by_cases hm0 : m = 0
        · subst hm0
          have hd : decide ((0 : Int) ≤ ((0 : Nat) : Int) - 1) = false := decide_eq_false (by omega)
          have HR := Lib.hid (noOcc_hit h1 hn.out hlt he.out)
          go_wp2_with fail
          go_quiet (fail)
          go_wp2_with fail
          go_ret
          exact ⟨_, ret_int (by rw [HR.out]), rfl⟩
        · obtain ⟨k, rfl⟩ : ∃ k, m = k + 1 := ⟨m - 1, by omega⟩
          have hd : decide ((0 : Int) ≤ ((k + 1 : Nat) : Int) - 1) = true := decide_eq_true (by omega)
          have c0 := HA.out.c0
          have i1 : P + k < s.size := by omega
          have i2 : k < p.size := by omega
          have w5 := idx_run s ((P : Int) + ((k : Int) + 1) - 1) (P + k) (by omega) i1
          have w6 := idx_run p (k : Int) k rfl i2
          rw [← bt_at s (P + k) i1] at w5
          rw [← bt_at p k i2] at w6
          generalize hx : bt s (P + k) = x at w5
          generalize hy : bt p k = y at w6
          have HX := Lib.hid hx
          have HY := Lib.hid hy
          clear hx hy
          by_cases heq : x = y
          · subst heq
            have hb0 : ((x.toNat : Int) == (x.toNat : Int)) = true := by simp
            go_wp2_with fail
            go_quiet (fail)
            clear w5 w6 c0
            go_wp2_with fail
            go_roundw
            case rel => exact ⟨k, _, by omega, rfl, by go_num, by go_num, Lib.hid (fun t h2 h3 => by
              by_cases e : t = k
              · subst e; rw [HX.out, HY.out]
              · exact he.out t (by omega) h3)⟩
            case measure => simp [RowKit.intOf]
          · have hb0 : ((x.toNat : Int) == (y.toNat : Int)) = false := by
              have : x.toNat ≠ y.toNat := fun e => heq (UInt8.toNat_inj.1 e)
              rw [beq_eq_false_iff_ne]; omega
            have HNE := Lib.hid heq
            clear heq
            go_wp2_with fail
            go_quiet (fail)
            clear w6 c0
            go_wp2_with fail
            have hx256 := x.toNat_lt
            have cb := HA.out.cb x.toNat hx256
            have cs := HA.out.cs
            have ct := HA.out.ct k i2
            have hbb := bc_le p x.toNat
            have htt := good_le HG.out i2
            have HSK := bm_skip (T := S) (skip := max (bc p x.toNat) (S k)) HG.out i2 hlt hn.out (by rw [HX.out, HY.out]; exact HNE.out) (fun t h2 h3 => he.out t (by omega) h3) (by rw [HX.out])
            generalize hbe : bc p x.toNat = b at cb hbb HSK
            generalize hte : S k = t at ct htt HSK
            have HSK' := Lib.hid HSK
            clear hbe hte HSK
            have w7 : IntKind.i64.wrap ((P : Int) + ((k : Int) + 1) - 1 + max (b : Int) (t : Int)) = (P : Int) + ((k : Int) + 1) - 1 + max (b : Int) (t : Int) := IntWalk.i64_in _ (by omega)
            have k0 : (0 : Int) ≤ (k : Int) := by omega
            have k1 : (k : Int) < (p.size : Int) := by omega
            go_quiet (fail)
            go_wp2_with fail
            obtain ⟨hno', hgt⟩ := HSK'.out
            go_roundw
            case rel =>
              refine ⟨P + k + max b t - (p.size - 1), _, World.drewN_drewN _ _ _, ?_, by omega, Lib.hid hno'⟩
              refine congrArg _ ?_
              omega
            case measure =>
              simp [RowKit.intOf]
              omega
    · have hltz : ¬ ((P : Int) + p.size - 1 < (s.size : Int)) := by omega
      have HR := Lib.hid (noOcc_all h1 hn.out (by omega))
      go_wp2_with fail
      go_ret
      exact ⟨q, ret_int HR.out.symm, rfl⟩
end Go.Proofs.Ytnigbgablginnaa

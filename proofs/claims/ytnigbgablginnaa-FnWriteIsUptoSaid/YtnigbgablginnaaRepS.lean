/- Replace with one pair of texts. -/
import Derived.Test.YtnigbgablginnaaRepK
import Derived.Test.YtnigbgablginnaaWSingleStep
set_option linter.unusedVariables false
namespace Go.Proofs.Ytnigbgablginnaa
open Go.RowKit Go.Lib

theorem occ_pre (s p : Bs) (j : Nat) : occAt s p j = true ↔ p <+: s.drop j := by unfold occAt; exact List.isPrefixOf_iff_prefix
theorem rk_repl (p v : Bs) (hp : p ≠ []) : ∀ (n : Nat) (s : Bs), s.length ≤ n → Lib.replaceK p v (Lib.count s p) s = repl [(p, v)] s true := by
  intro n
  induction n with
  | zero =>
    intro s hs
    have : s = [] := List.eq_nil_of_length_eq_zero (by omega)
    subst this
    rcases index_spec [] p with ⟨hi, hno⟩ | ⟨i, hi, hle, ho, hno⟩
    · rw [count_miss hi, Lib.replaceK]
      exact (repl_one_miss (p, v) hp _ (fun a b e hpre => by
        have := (occ_pre [] p 0).2 (by
          have hb : b = [] := (List.append_eq_nil_iff.1 e.symm).2
          rw [hb] at hpre
          exact hpre)
        rw [hno 0 (Nat.zero_le _)] at this
        cases this)).symm
    · have := (occ_pre [] p i).1 ho
      rw [List.drop_nil] at this
      exact absurd (List.prefix_nil.1 this) hp
  | succ n ih =>
    intro s hs
    rcases index_spec s p with ⟨hi, hno⟩ | ⟨i, hi, hle, ho, hno⟩
    · rw [count_miss hi, Lib.replaceK]
      exact (repl_one_miss (p, v) hp _ (fun a b e hpre => by
        have := (occ_pre s p a.length).2 (by rw [e, List.drop_left]; exact hpre)
        rw [hno a.length (by rw [e, List.length_append]; omega)] at this
        cases this)).symm
    · obtain ⟨b, hb⟩ := (occ_pre s p i).1 ho
      have hpl : 0 < p.length := List.length_pos_iff.2 hp
      have hbl : b = s.drop (i + p.length) := by
        rw [← List.drop_drop, ← hb, List.drop_left]
      have hsp : s = s.take i ++ (p ++ b) := by rw [hb, List.take_append_drop]
      have hlen : (s.drop (i + p.length)).length ≤ n := by
        have h1 : (s.drop i).length = p.length + b.length := by rw [← hb, List.length_append]
        rw [List.length_drop] at h1 ⊢
        omega
      rw [count_hit hp hi, Nat.add_comm 1, replaceK_hit _ _ _ _ i hi, ih _ hlen, ← hbl]
      conv => rhs; rw [hsp]
      refine (repl_one_hit (p, v) hp (s.take i) b (fun c d e hd hpre => ?_)).symm
      have hcl : c.length < i := by
        have h1 : (s.take i).length = c.length + d.length := by rw [e, List.length_append]
        have h2 : 0 < d.length := List.length_pos_iff.2 hd
        rw [List.length_take] at h1
        omega
      have := (occ_pre s p c.length).2 (by
        rw [hsp, e, List.append_assoc, List.drop_left]; exact hpre)
      rw [hno c.length hcl] at this
      cases this
theorem rep_kind_single {w : World} {R : Nat} {p v : ByteArray} {L : Nat} (h : RepOk w R [(p, v)] L) (hp1 : 1 < p.size) (hp : p.size ≤ 2097152) (hv : v.size ≤ 2097152) (s : ByteArray) (hs : s.size ≤ 2097152) :
    Calls Try.prog 43 #[at0 R, .string s] w (Rpd (repl ([(p, v)].map tb) s.data.toList true) w) := by
  have his : isSingle [(p, v)] := ⟨p, v, rfl, hp1⟩
  obtain ⟨u, base, hc, hb, _⟩ := h
  cases hb with
  | gen g m N T hs' ho' h => exact absurd his hs'
  | bytes B Rf hs' ho' hn' hT hR hb => exact absurd his hs'
  | strs B Lb hs' ho' hn' h hb => exact absurd his hs'
  | single Q F G p' v' S hq hp' h hb =>
    cases hq
    have hcl := count_le s p (by omega)
    have hpe : p.data.toList ≠ [] := fun e => by have := Lib.size_eq p; rw [e, List.length_nil] at this; omega
    have hm : (Lib.count s.data.toList p.data.toList + 1) * v.size ≤ 2097153 * 2097152 := Nat.mul_le_mul (by omega) hv
    have e : repl ([(p, v)].map tb) s.data.toList true = Lib.replaceK p.data.toList v.data.toList (Lib.count s.data.toList p.data.toList) s.data.toList := (rk_repl _ _ hpe _ _ (Nat.le_refl _)).symm
    rw [e]
    exact rep_single R Q _ s w hc (sgReplace Q F G p v s S w h (by omega) (by omega) (by omega) _ rfl (by omega))
theorem impOne (p v : ByteArray) (hp0 : 1 ≤ p.size) (hp : p.size ≤ 2097152) (hv : v.size ≤ 2097152) (A : Value) (s : ByteArray) (w : World) (hA : StrsAt w A [p, v]) (hs : s.size ≤ 2097152) :
    Calls Try.prog 39 #[A, .string s] w (ImpR (repl [(p.data.toList, v.data.toList)] s.data.toList true) w) := by
  have hz : ∀ x ∈ [p, v], x.size ≤ 2097152 := fun x hx => by
    rcases List.mem_cons.1 hx with rfl | hx
    · exact hp
    · rw [List.mem_singleton.1 hx]; exact hv
  by_cases h1 : p.size = 1
  · exact imp1 (xs := [p, v]) ⟨by simp, by simp, hz, fun x hx => by
      have : x = p := List.mem_singleton.1 hx
      rw [this]; exact h1⟩ A s w hA hs
  · exact impRep [p, v] [(p, v)] A _ s w hA (pairsOf_up [p, v] (by simp)) (by simp) (fun x hx => by have := hz x hx; omega) (fun w1 R hR => rep_kind_single hR (by omega) hp hv s hs)
end Go.Proofs.Ytnigbgablginnaa

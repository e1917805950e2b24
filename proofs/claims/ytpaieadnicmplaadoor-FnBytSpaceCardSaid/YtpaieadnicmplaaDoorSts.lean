/- SeStarts: the places at which code points begin. -/
import Derived.Test.YtpaieadnicmplaaDoorRune
import Derived.Test.YtpaieadnicmplaaDoorAnyL
import Derived.Laws.OwnMore
import Derived.RangeFuncBox
set_option linter.unusedVariables false
namespace Go.Proofs.YtpaieadnicmplaaDoor
open Go.RowKit Go.Lib

def ints (l : List Nat) : List Value := l.map fun n : Nat => Value.int .i64 (n : Int)
theorem ints_len (l : List Nat) : (ints l).length = l.length := by simp [ints]

theorem int_info : (Tryd.prog.info? 3).map (fun i => (i.zero, i.size, i.bytes)) = some (some (.int .i64 0), 1, 8) := by kernel_rfl

/-- The slice value v reads as the list xs of numbers. -/
def IntsAt (w : World) (v : Value) (xs : List Nat) : Prop :=
  ∃ (A : Option Addr) (c : Nat), v = .slice A xs.length c ∧ xs.length ≤ c ∧ (xs ≠ [] → ∃ g o, A = some ⟨g, o, none⟩ ∧ g < w.heap.size ∧ ∀ (j u : Nat), xs[j]? = some u → w.cell? ⟨g, o + j, none⟩ = some (.int .i64 (u : Int)))
theorem IntsAt.below {w w' : World} {v : Value} {xs : List Nat} (h : IntsAt w v xs) (hb : Below w.heap.size w w') : IntsAt w' v xs := by
  obtain ⟨A, c, e, hc, hx⟩ := h
  refine ⟨A, c, e, hc, fun hne => ?_⟩
  obtain ⟨g, o, eA, hg, hcell⟩ := hx hne
  exact ⟨g, o, eA, Nat.lt_of_lt_of_le hg hb.size, fun j u hu => (hb.cell (p := ⟨g, o + j, none⟩) hg).trans (hcell j u hu)⟩
theorem IntsAt.of_own {w : World} {base : Nat} {e : TypeId} {v : Value} {xs : List Nat} (h : w.ownsRow base e 1 v xs.length (ints xs)) : IntsAt w v xs := by
  have hcells := fun g (hg : v.ownBlock = some g) => h.cells hg
  have hlt := h.lt
  rcases h.2 with ⟨rfl, h0⟩ | ⟨g, cap, cur, rfl, hg, hh, hc, _⟩
  · have : xs = [] := List.eq_nil_of_length_eq_zero h0
    subst this
    exact ⟨none, 0, rfl, Nat.le_refl _, fun h => absurd rfl h⟩
  · refine ⟨_, cap, rfl, hc, fun _ => ⟨g, 0, rfl, (hlt g rfl).2, fun j u hu => ?_⟩⟩
    have := hcells g rfl j (.int .i64 (u : Int)) (by unfold ints; rw [List.getElem?_map, hu]; rfl)
    rw [Addr.add_lit] at this
    exact this

set_option maxRecDepth 100000 in
set_option maxHeartbeats 4000000 in
theorem SeStarts_own (s : ByteArray) (w : World) (hs : s.size < 4294967281) :
    Calls Tryd.prog 29 #[.string s] w fun e W' => ∃ v, e = .returned v ∧ W'.ownsRow w.heap.size 3 1 v (starts s 0).length (ints (starts s 0)) ∧ Below w.heap.size w W' := by
  obtain ⟨i0, hi, hz0, hz1, hz2⟩ := info_parts int_info
  have hlen0 := starts_len s s.size 0 (by omega)
  go_enter Tryd.func29, Tryd.ntmps29
  go_wp2
  go_loopg [3, 4] s.size (fun g v av W => ∃ (a : Nat) (dn : List Nat), s.size - a ≤ g ∧ av = .int .i64 a ∧ dn ++ starts s a = starts s 0 ∧ W.ownsRow w.heap.size 3 1 v dn.length (ints dn) ∧ Below w.heap.size w W ∧ a ≤ s.size)
  case atStart => exact ⟨0, [], by omega, rfl, rfl, World.ownsRow_nil _ _ _ _, Below.refl _ _, by omega⟩
  case round =>
    obtain ⟨a, dn, hg, rfl, hdn, hrow, hB, ha4⟩ := hrel
    have hdl : dn.length ≤ s.size := by have := congrArg List.length hdn; simp at this; omega
    by_cases ha : a < s.size
    · have hcons := starts_cons s a ha
      have hw1 := decode_width_pos s a ha
      have hw4 := decode_end s a ha
      have hdl' : dn.length < s.size := by have := congrArg List.length hdn; rw [hcons] at this; simp at this; omega
      have hm : dn.length + 1 ≤ maxLen := by unfold maxLen; omega
      have HR := Lib.hid hrow
      have HB := Lib.hid hB
      have HD := Lib.hid hdn
      have HC := Lib.hid hcons
      have hBs := hB.size
      clear hrow hB hdn hcons
      go_wp2_with (first
        | (at_builtin; refine wpList_append_own _ rfl _ _ 40 rfl w.heap.size 3 i0 (.int .i64 0) 1 8 Tryd.underlying40 hi hz0 hz1 hz2 rfl (by decide) _ _ _ rfl (HR.out.alloc _) ⟨wr.heap.size, 0, none⟩ 1 1 [.int .i64 (a : Int)] rfl rfl (cell_one_new _ _ _) (by simp [Value.oneCell']) hm (by omega) (by simp; omega) ?_; intro v' w1 hown' hgrow _; have hB1 : Below w.heap.size w w1 := (HB.out.alloc hBs _).grown hgrow (by simp; omega) (fun j ej => (HR.out.lt j ej).1); obtain ⟨g', cap', rfl⟩ := ownsRow_succ hown'; have HO := Lib.hid hown'; have HB1 := Lib.hid hB1; clear hown' hgrow hB1)
        | (go_at_call 30; refine (SeRune s a _ hs ha).mono ?_; rintro e w' ⟨rfl, rfl⟩))
      go_roundg (gk - 1)
      case measure => omega
      case rel => exact ⟨a + (Utf8.decode s a).2, dn ++ [a], by omega, by go_num, by rw [List.append_assoc, ← HD.out, HC.out]; rfl, by have := HO.out; simpa [ints] using this, HB1.out, by omega⟩
    · rw [starts_end s a (by omega), List.append_nil] at hdn
      have HR := Lib.hid hrow
      have HB := Lib.hid hB
      have HD := Lib.hid hdn
      clear hrow hB hdn
      go_wp2
      go_ret
      exact ⟨_, rfl, HD.out ▸ HR.out, HB.out⟩
theorem SeStarts (s : ByteArray) (w : World) (hs : s.size < 4294967281) :
    Calls Tryd.prog 29 #[.string s] w fun e W' => ∃ v, e = .returned v ∧ IntsAt W' v (starts s 0) ∧ Below w.heap.size w W' :=
  (SeStarts_own s w hs).mono fun e w' ⟨v, he, ho, hb⟩ => ⟨v, he, IntsAt.of_own ho, hb⟩
end Go.Proofs.YtpaieadnicmplaaDoor

/- NewReplacer. -/
import Derived.Test.YtnigbgablginnaaBldS
import Derived.Laws.AppendOwnNone
set_option linter.unusedVariables false
namespace Go.Proofs.Ytnigbgablginnaa
open Go.RowKit Go.Lib

def Once (R : Nat) (qs : List BB) (L : Nat) (w : World) (e : Ending) (w' : World) : Prop := ∃ v, e = .returned (.tuple #[]) ∧ w'.cell? ⟨R, 0, none⟩ = some v ∧ Built w' w.heap.size qs L v ∧ Below R w w'
set_option maxRecDepth 100000 in
set_option maxHeartbeats 2000000 in
theorem buildOnce (R : Nat) (xs : List ByteArray) (qs : List BB) (v : Value) (w : World) (c0 : w.cell? ⟨R, 0, none⟩ = some .nilIface) (c1 : w.cell? ⟨R, 1, none⟩ = some v) (nf : ∀ o, w.frozen? ⟨R, o, none⟩ = false) (hv : StrsAt w v xs) (hp : PairsOf xs qs) (hx : xs.length ≤ 2147483647) (hs : ∀ x ∈ xs, x.size ≤ 2147483647) :
    Calls Try.prog 63 #[at0 R] w (Once R qs xs.length w) := by
  have HBA := Lib.hid (build_any R xs qs v w c1 hv hp hx hs)
  have hRl : R < w.heap.size := World.block_lt_of_cell? _ _ c0
  have f0 := nf 0
  have f1 := nf 1
  clear hv hp hs nf
  go_enter Try.func63, Try.ntmps63
  go_wp2_with fail
  refine HBA.out.mono ?_
  rintro e w1 ⟨u, rfl, hbu, hB⟩
  have k0 := (hB.cell (p := ⟨R, 0, none⟩) hRl).trans c0
  have k1 := (hB.cell (p := ⟨R, 1, none⟩) hRl).trans c1
  have g0 := (hB.frozen (p := ⟨R, 0, none⟩) hRl).trans f0
  have g1 := (hB.frozen (p := ⟨R, 1, none⟩) hRl).trans f1
  obtain ⟨t, B, rfl⟩ := hbu.iface
  have HBU := Lib.hid hbu
  have HB := Lib.hid hB
  have HK0 := Lib.hid k0
  clear hbu hB
  go_wp2_with fail
  go_end0
  have hne : ∀ b, b ≠ R → ((w1.setCell ⟨R, 0, none⟩ (.iface t (at0 B))).setCell ⟨R, 1, none⟩ (.slice none 0 0)).heap[b]? = w1.heap[b]? := fun b hb => (Below.heap_setCell _ _ _ _ hb).trans (Below.heap_setCell _ _ _ _ hb)
  refine ⟨_, rfl, ?_, HBU.out.keep (by simp) (fun b hb _ => hne b (by omega)) rfl rfl rfl, ((HB.out.mono (Nat.le_of_lt hRl)).setCell (Nat.le_refl _) _).setCell (Nat.le_refl _) _⟩
  rw [World.cell?_setCell_other _ _ _ _ (by simp)]
  exact World.cell?_setCell_same _ _ _ HK0.out

/-- A replacer of some pairs. -/
def RepOk (w : World) (R : Nat) (qs : List BB) (L : Nat) : Prop := ∃ v base, w.cell? ⟨R, 0, none⟩ = some v ∧ Built w base qs L v ∧ base ≤ w.heap.size
/-- .. and none of it lies below base0. -/
def RepFrom (w : World) (base0 R : Nat) (qs : List BB) (L : Nat) : Prop := ∃ v base, w.cell? ⟨R, 0, none⟩ = some v ∧ Built w base qs L v ∧ base ≤ w.heap.size ∧ base0 ≤ base ∧ base0 ≤ R
theorem RepFrom.ok {w : World} {base0 R : Nat} {qs : List BB} {L : Nat} (h : RepFrom w base0 R qs L) : RepOk w R qs L := by
  obtain ⟨v, base, h1, h2, h3, _⟩ := h
  exact ⟨v, base, h1, h2, h3⟩
theorem RepFrom.set {w : World} {base0 R : Nat} {qs : List BB} {L : Nat} (h : RepFrom w base0 R qs L) (a : Addr) (x : Value) (ha : a.block < base0) : RepFrom (w.setCell a x) base0 R qs L := by
  obtain ⟨v, base, h1, h2, h3, h4, h5⟩ := h
  exact ⟨v, base, by rw [World.cell?_setCell_other _ _ _ _ (fun e => by have := congrArg Addr.block e; simp at this; omega)]; exact h1, h2.keep (by simp) (fun b hb _ => Below.heap_setCell _ _ _ _ (by omega)) rfl rfl rfl, by simpa using h3, h4, h5⟩
def NewMadeF (qs : List BB) (L : Nat) (w : World) (e : Ending) (w' : World) : Prop := ∃ R, e = .returned (at0 R) ∧ RepFrom w' w.heap.size R qs L ∧ Below w.heap.size w w'
def NewMade (qs : List BB) (L : Nat) (w : World) (e : Ending) (w' : World) : Prop := ∃ R, e = .returned (at0 R) ∧ RepOk w' R qs L ∧ Below w.heap.size w w'
theorem RepOk.below {w w' : World} {R : Nat} {qs : List BB} {L : Nat} (h : RepOk w R qs L) (hb : Below w.heap.size w w') : RepOk w' R qs L := by
  obtain ⟨v, base, h1, h2, h3⟩ := h
  exact ⟨v, base, (hb.cell (p := ⟨R, 0, none⟩) (World.block_lt_of_cell? _ _ h1)).trans h1, h2.below hb, Nat.le_trans h3 hb.size⟩

set_option maxRecDepth 100000 in
set_option maxHeartbeats 2000000 in
theorem newRepF (xs : List ByteArray) (qs : List BB) (v : Value) (w : World) (hv : StrsAt w v xs) (hp : PairsOf xs qs) (hx : xs.length ≤ 2147483647) (hs : ∀ x ∈ xs, x.size ≤ 2147483647) :
    Calls Try.prog 53 #[v] w (NewMadeF qs xs.length w) := by
  obtain ⟨A, c, rfl⟩ := hv.shape
  obtain ⟨_, hcc, hcells⟩ := hv.cells
  have hev : xs.length = 2 * qs.length := hp.1
  have hb1 : (((xs.length : Int) % 2) == 1) = false := by rw [beq_eq_false_iff_ne]; omega
  have HBO := Lib.hid (fun (R : Nat) (v' : Value) (W : World) c0 c1 nf (hv' : StrsAt W v' xs) => buildOnce R xs qs v' W c0 c1 nf hv' hp hx hs)
  have HEV := Lib.hid hev
  clear hev
  have hx47 : xs.length ≤ maxLen := by unfold maxLen; omega
  obtain ⟨i0, hi, hz0, hz1, hz2⟩ := info_parts str_info
  have HCC := Lib.hid hcells
  clear hv hp hs hcells
  have hfin : ∀ (v' : Value) (w1 : World), StrsAt w1 v' xs → Below w.heap.size w w1 → Calls Try.prog 63 #[at0 w1.heap.size] (w1.alloc (.cells #[.nilIface, v'] 67)) (fun e w2 => e = .returned (.tuple #[]) ∧ RepFrom w2 w.heap.size w1.heap.size qs xs.length ∧ Below w.heap.size w w2) := fun v' w1 h1 h2 => by
    have hb := heap_alloc_new w1 (.cells #[.nilIface, v'] 67)
    refine (HBO.out w1.heap.size v' _ (by rw [cell_of_row _ _ 0 _ _ _ hb]; rfl) (by rw [cell_of_row _ _ 1 _ _ _ hb]; rfl) (fun o => frozen_of_row _ _ o _ _ hb) (h1.below ((Below.refl _ w1).alloc (Nat.le_refl _) _))).mono ?_
    rintro e w2 ⟨u, rfl, hu, hbu, hB⟩
    exact ⟨rfl, ⟨u, _, hu, hbu, hB.size, Nat.le_trans h2.size (by simp), h2.size⟩, h2.trans ((((Below.refl _ w1).alloc (Nat.le_refl _) _).trans hB).mono h2.size)⟩
  have HFIN := Lib.hid hfin
  clear hfin
  cases hA : A with
  | none =>
    have hxe : xs = [] := by
      cases xs with
      | nil => rfl
      | cons a l =>
        obtain ⟨G, o, e, _⟩ := HCC.out 0 a rfl
        rw [hA] at e; cases e
    have HCl := Lib.hid (HFIN.out (.slice none 0 0) w (by rw [hxe]; exact StrsAt.nil w) (Below.refl _ _))
    have hl0 : xs.length = 0 := by rw [hxe]; rfl
    rw [hl0] at HCl ⊢
    clear hA hxe hl0 hb1 hx hcc hx47
    go_enter Try.func53, Try.ntmps53
    go_wp2_with fail
    refine HCl.out.mono ?_
    rintro e w2 ⟨rfl, hR, hB⟩
    have HR := Lib.hid hR
    have HB := Lib.hid hB
    clear hR hB
    go_wp2_with fail
    go_ret
    exact ⟨_, rfl, HR.out, HB.out⟩
  | some ad =>
    have hsp : ∀ j u, (xs.map Value.string)[j]? = some u → w.cell? (ad.add j) = some u := fun j u hu => by
      rw [List.getElem?_map] at hu
      cases hxj : xs[j]? with
      | none => rw [hxj] at hu; cases hu
      | some x =>
        rw [hxj] at hu
        obtain rfl : Value.string x = u := Option.some.inj hu
        obtain ⟨G, o, e, _, hc⟩ := HCC.out j x hxj
        rw [hA] at e
        obtain rfl : ad = ⟨G, o, none⟩ := Option.some.inj e
        rw [Addr.add_mid]; exact hc
    have HSP := Lib.hid hsp
    have H1 : Hid (∀ u ∈ xs.map Value.string, u.oneCell' = true) := Lib.hid (fun u hu => by obtain ⟨x, _, rfl⟩ := List.mem_map.1 hu; rfl)
    have hbytes : (0 + xs.length) * 16 ≤ 140737488355328 := by omega
    clear hsp hA
    go_enter Try.func53, Try.ntmps53
    go_wp2_with (at_builtin; refine wpList_append_own _ rfl _ _ 22 rfl w.heap.size 9 i0 (.string ByteArray.empty) 1 16 Try.underlying22 hi hz0 hz1 hz2 rfl (by decide) _ 0 [] rfl (World.ownsRow_nil _ _ _ _) ad xs.length c (xs.map Value.string) rfl (by simp) HSP.out H1.out (by rw [Nat.zero_add]; exact hx47) hbytes (Nat.le_refl _) ?_; intro v' w1 hown hgrow _; have hst : StrsAt w1 v' xs := StrsAt.of_own (by simpa using hown); have hB1 : Below w.heap.size w w1 := (Below.refl _ w).grown hgrow (Nat.le_refl _) (fun j ej => by cases ej); obtain ⟨A', c', rfl⟩ := hst.shape; have HCl := Lib.hid (HFIN.out _ w1 hst hB1); clear hst hB1 hown hgrow)
    refine HCl.out.mono ?_
    rintro e w2 ⟨rfl, hR, hB⟩
    have HR := Lib.hid hR
    have HB := Lib.hid hB
    clear hR hB
    go_wp2_with fail
    go_ret
    exact ⟨_, rfl, HR.out, HB.out⟩
theorem newRep (xs : List ByteArray) (qs : List BB) (v : Value) (w : World) (hv : StrsAt w v xs) (hp : PairsOf xs qs) (hx : xs.length ≤ 2147483647) (hs : ∀ x ∈ xs, x.size ≤ 2147483647) :
    Calls Try.prog 53 #[v] w (NewMade qs xs.length w) := by
  refine (newRepF xs qs v w hv hp hx hs).mono ?_
  rintro e w' ⟨R, h1, h2, h3⟩
  exact ⟨R, h1, h2.ok, h3⟩
end Go.Proofs.Ytnigbgablginnaa

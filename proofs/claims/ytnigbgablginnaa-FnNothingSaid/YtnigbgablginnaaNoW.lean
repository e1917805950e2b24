/- Replace where no old text stands in the text. -/
import Derived.Test.YtnigbgablginnaaAnyR
set_option linter.unusedVariables false
namespace Go.Proofs.Ytnigbgablginnaa
open Go.RowKit Go.Lib

/-- (*byteStringReplacer).Replace where no byte of the text is an old text. -/
theorem strRepNone (B base : Nat) (f : UInt8 → Option Bs) (Lb : List UInt8) (s : ByteArray) (w : World) (h : StrAt w base B f Lb) (hs : s.size ≤ 2147483647) (hno : ∀ c ∈ s.data.toList, f c = none) :
    Calls Try.prog 96 #[at0 B, .string s] w (Rpd s.data.toList w) := by
  have H := Lib.hid h
  have HNO := Lib.hid hno
  obtain ⟨v, cv, hov, _⟩ := h.r
  have hBl : B < w.heap.size := World.block_lt_of_cell? _ _ cv
  have hLs : StrsAt w v (Lb.map fun b => ⟨#[b]⟩) := StrsAt.of_own (base := base) (e := 9) (by rw [List.length_map, List.map_map]; exact hov)
  obtain ⟨A, cA, rfl⟩ := hLs.shape
  rw [List.length_map] at cv
  obtain ⟨_, _, hcl⟩ := hLs.cells
  have HOV := Lib.hid hcl
  have hL256 : Lb.length ≤ 256 := nodup256 h.nd
  clear h hov hLs hcl hno
  go_enter Try.func96, Try.ntmps96
  by_cases hpath : Lb.length * 8 ≤ s.size
  · go_wp2_with fail
    go_loopw [5, 6, 32] (fun nv av iv wr => ∃ (k : Nat), k ≤ Lb.length ∧ iv = .int .i64 k ∧ nv = .int .i64 s.size ∧ av = .bool false ∧ wr = w) (fun _ _ iv _ => Lb.length - (RowKit.intOf iv).toNat)
    case atStart => exact ⟨0, Nat.zero_le _, rfl, rfl, rfl, rfl⟩
    case round =>
      obtain ⟨k, hk, rfl, rfl, rfl, rfl⟩ := hrel
      by_cases hlt : k < Lb.length
      · obtain ⟨x, hx⟩ : ∃ x, Lb[k]? = some x := ⟨_, List.getElem?_eq_getElem hlt⟩
        obtain ⟨G, o, eA, hGl, c0⟩ := HOV.out k ⟨#[x]⟩ (by rw [List.getElem?_map, hx]; rfl)
        subst eA
        have hxm : x ∈ Lb := List.mem_of_getElem? hx
        have hfx := (H.out.mem x).1 hxm
        have hc0 : s.data.toList.count x = 0 := by
          rcases Nat.eq_zero_or_pos (s.data.toList.count x) with h | h
          · exact h
          · exact absurd (HNO.out x (List.count_pos_iff.1 h)) hfx
        have hcnt := fun (W : World) => countB s ⟨#[x]⟩ x W (by omega) rfl
        rw [hc0] at hcnt
        have HCN := Lib.hid hcnt
        clear hcnt hxm hfx hx hc0
        go_wp2_with (go_at_call 98; (with_reducible refine (HCN.out _).mono ?_); rintro e1 w1 ⟨rfl, rfl⟩)
        go_roundw
        case rel => exact ⟨k + 1, by omega, by go_num, rfl, rfl, (by first | rfl | trivial)⟩
        case measure => simp [RowKit.intOf]; omega
      · have hge : ¬ ((k : Int) < (Lb.length : Int)) := by omega
        go_wp2_with fail
        go_ret
        exact ⟨by first | rfl | (cases s; rfl), Below.refl _ _⟩
  · go_wp2_with fail
    go_loopw [5, 6, 10] (fun nv av iv wr => ∃ (k : Nat), k ≤ s.size ∧ iv = .int .i64 k ∧ nv = .int .i64 s.size ∧ av = .bool false ∧ wr = w) (fun _ _ iv _ => s.size - (RowKit.intOf iv).toNat)
    case atStart => exact ⟨0, Nat.zero_le _, rfl, rfl, rfl, rfl⟩
    case round =>
      obtain ⟨k, hk, rfl, rfl, rfl, rfl⟩ := hrel
      by_cases hlt : k < s.size
      · have hb256 := (s[k]).toNat_lt
        obtain ⟨x, cx, hrv⟩ := H.out.c s[k]
        rw [HNO.out s[k] (List.mem_of_getElem? (byte_at s k hlt))] at hrv
        have hxe : x = .slice none 0 0 := hrv
        subst hxe
        have hltz : (k : Int) < (s.size : Int) := by omega
        clear hrv
        go_wp2_with fail
        go_roundw
        case rel => exact ⟨k + 1, by omega, by go_num, rfl, rfl, (by first | rfl | trivial)⟩
        case measure => simp [RowKit.intOf]; omega
      · have hge : ¬ ((k : Int) < (s.size : Int)) := by omega
        go_wp2_with fail
        go_ret
        exact ⟨by first | rfl | (cases s; rfl), Below.refl _ _⟩

theorem no_occ {s p : Bs} (h : index s p = -1) : ∀ a b, s = a ++ b → ¬ p <+: b := by
  intro a b e hp
  rcases index_spec s p with ⟨_, hno⟩ | ⟨i, hi, _⟩
  · have := hno a.length (by rw [e, List.length_append]; omega)
    unfold occAt at this
    rw [e, List.drop_left] at this
    rw [List.isPrefixOf_iff_prefix.2 hp] at this
    cases this
  · omega
theorem impNo {xs : List ByteArray} (he : xs.length % 2 = 0) (hx : xs.length ≤ 2147483647) (hz : ∀ x ∈ xs, x.size ≤ 2147483647) (v : Value) (s : ByteArray) (w : World) (hv : StrsAt w v xs) (hs : s.size ≤ 2147483647) (hno : ∀ y ∈ oldsOf xs, index s.data.toList y.data.toList = -1) :
    Calls Try.prog 39 #[v, .string s] w (ImpR s.data.toList w) := by
  have hpn : ∀ p ∈ (pairUp xs).map tb, ∀ a b, s.data.toList = a ++ b → ¬ p.1 <+: b := fun p hp => by
    obtain ⟨q, hq, rfl⟩ := List.mem_map.1 hp
    exact no_occ (hno q.1 (pairUp_mem he hq).1)
  have e : repl ((pairUp xs).map tb) s.data.toList true = s.data.toList := repl_nothing _ _ hpn
  refine impRep xs (pairUp xs) v _ s w hv (pairsOf_up xs he) hx hz (fun w1 R hR => ?_)
  have hL := (pairsOf_up xs he).1
  obtain ⟨u, base, hc, hb, hbw⟩ := id hR
  cases hb with
  | single Q F G p v' S hq' hp h hb =>
    have hm : (p, v') ∈ pairUp xs := by rw [hq']; simp
    have hpm := pairUp_mem he hm
    have hk : 0 = Lib.count s.data.toList p.data.toList := (count_miss (hno p hpm.1)).symm
    exact rep_single R Q _ s w1 hc (sgReplace Q F G p v' s S w1 h hs (by omega) (hz p hpm.2.1) 0 hk (by have := hz v' hpm.2.2; omega))
  | gen g m N T hs' ho' h =>
    have hg := genRep g base xs.length N (pairUp xs) m T s w1 h (by omega) (by omega) (by rw [e, ← Lib.size_eq]; omega)
    rw [e] at hg
    exact rep_gen R g _ s w1 hc hg
  | bytes B Rf hs' ho' hn' hT hRf hb =>
    have := rep_kind_bytes hR ho' hn' s (by omega)
    rw [e] at this
    exact this
  | strs B Lb hs' ho' hn' h hb =>
    refine rep_strs R B _ s w1 hc (strRepNone B base _ Lb s w1 h hs (fun c hcs => ?_))
    unfold byteFor
    cases hf : ((pairUp xs).map tb).find? (fun p => p.1 == [c]) with
    | none => rfl
    | some p =>
      exfalso
      have hpm := List.mem_of_find?_eq_some hf
      have hpc : p.1 = [c] := by simpa using List.find?_some hf
      obtain ⟨a, b, hab⟩ := List.append_of_mem hcs
      exact hpn p hpm a (c :: b) hab ⟨b, by rw [hpc]; rfl⟩
end Go.Proofs.Ytnigbgablginnaa

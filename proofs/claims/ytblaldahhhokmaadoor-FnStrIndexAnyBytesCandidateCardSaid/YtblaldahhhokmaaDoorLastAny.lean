/- gostrings.LastIndexAny; the reference's SeLastOf (printed by mkLastAny.py). -/
import Derived.Test.YtblaldahhhokmaaDoorIdxAny
import Derived.Test.YtblaldahhhokmaaDoorLastL
import Derived.Test.YtblaldahhhokmaaDoorL8
set_option linter.unusedVariables false
namespace Go.Proofs.YtblaldahhhokmaaDoor
open Go.RowKit Go.Lib

theorem lP_never (s : ByteArray) (p : Nat → Bool) (h : ∀ c, p c = false) (l : List Nat) : lP s p l = -1 := by
  unfold lP
  generalize (-1 : Int) = x
  induction l generalizing x with
  | nil => rfl
  | cons a l ih => rw [List.foldl_cons, h, if_neg (by decide)]; exact ih x

set_option maxRecDepth 100000 in
set_option maxHeartbeats 2000000 in
theorem SeLastOf (s chars : ByteArray) (has : Bool) (w : World) (hs : s.size < 4294967281) (hcs : chars.size < 4294967281) :
    Calls Tryd.prog 32 #[.string s, .string chars, .bool has] w fun e w' => e = .returned (.int .i64 (lP s (fun c => hasR chars c == has) (starts s 0))) ∧ Below w.heap.size w w' := by
  have hlen := starts_len s s.size 0 (by omega)
  have Hmem : Hid (∀ x ∈ starts s 0, 0 ≤ x ∧ x < s.size) := starts_mem s s.size 0 (by omega)
  obtain ⟨p, hp⟩ : ∃ p : Nat → Bool, p = fun c => hasR chars c == has := ⟨_, rfl⟩
  rw [← hp]
  have HP := Lib.hid hp
  clear hp
  go_enter Tryd.func32, Tryd.ntmps32
  go_wp2_with fail
  refine (SeStarts s _ hs).mono ?_
  rintro e w1 ⟨v, rfl, hI, hB1⟩
  obtain ⟨A, cp, rfl, hc, hx⟩ := hI
  obtain ⟨xs, hxs⟩ : ∃ xs, xs = starts s 0 := ⟨_, rfl⟩
  rw [← hxs] at hlen Hmem hc hx ⊢
  have HX := Lib.hid hx
  have HB1 := Lib.hid hB1
  have HXS := Lib.hid hxs
  clear hx hB1 hxs
  go_wp2_with fail
  go_loopg [7, 15] xs.length (fun g lv iv wx => ∃ k : Nat, k ≤ xs.length ∧ xs.length ≤ k + g ∧ iv = .int .i64 k ∧ lv = .int .i64 (lP s p (xs.take k)) ∧ Hid (Below w1.heap.size w1 wx))
  case atStart => exact ⟨0, Nat.zero_le _, by omega, rfl, rfl, Below.refl _ _⟩
  case round =>
    obtain ⟨k, hk, hg, rfl, rfl, HBx⟩ := hrel
    by_cases hlt : k < xs.length
    · obtain ⟨u, hu⟩ : ∃ u, xs[k]? = some u := ⟨xs[k], List.getElem?_eq_getElem hlt⟩
      obtain ⟨g, o, rfl, hg', hcell⟩ := HX.out (by rintro rfl; simp at hlt)
      have hcu : wr.cell? ⟨g, o + k, none⟩ = some (.int .i64 (u : Int)) := (HBx.out.cell (p := ⟨g, o + k, none⟩) hg').trans (hcell k u hu)
      have hus := (Hmem.out u (List.mem_of_getElem? hu)).2
      have hF : lP s p (xs.take (k + 1)) = _ := (congrArg (lP s p) (take_snoc' hu)).trans (lP_snoc s p (xs.take k) u)
      have cR := SeRune s u wr hs hus
      obtain ⟨R, hR⟩ : ∃ R : Nat, (Utf8.decode s u).1 = R := ⟨_, rfl⟩
      rw [hR] at cR hF
      have cH := SeHas chars R wr hcs
      obtain ⟨b, hbd⟩ : ∃ b, b = hasR chars R := ⟨_, rfl⟩
      have hpR : p R = (b == has) := by rw [HP.out, hbd]
      rw [hpR] at hF
      rw [← hbd] at cH
      clear hcell hu hR hbd hpR
      have hsz := HBx.out.size
      obtain ⟨V, hV⟩ : ∃ V, V = lP s p (xs.take k) := ⟨_, rfl⟩
      rw [← hV] at hF ⊢
      clear hV
      cases hq : (b == has) with
      | true =>
        rw [hq, if_pos rfl] at hF
        have HF' := Lib.hid hF
        clear hF
        go_wp2_with (first | (go_at_call 36; refine cR.mono ?_; rintro e w' ⟨rfl, rfl⟩) | (go_at_call 48; refine cH.mono ?_; rintro e w' ⟨rfl, hB2⟩; have HB2 := Lib.hid hB2; clear hB2))
        go_roundg (gk - 1)
        case measure => omega
        case rel => exact ⟨k + 1, by omega, by omega, by go_num, by rw [HF'.out], HBx.out.trans (HB2.out.mono hsz)⟩
      | false =>
        rw [hq, if_neg (by decide)] at hF
        have HF' := Lib.hid hF
        clear hF
        go_wp2_with (first | (go_at_call 36; refine cR.mono ?_; rintro e w' ⟨rfl, rfl⟩) | (go_at_call 48; refine cH.mono ?_; rintro e w' ⟨rfl, hB2⟩; have HB2 := Lib.hid hB2; clear hB2))
        go_roundg (gk - 1)
        case measure => omega
        case rel => exact ⟨k + 1, by omega, by omega, by go_num, by rw [HF'.out], HBx.out.trans (HB2.out.mono hsz)⟩
    · obtain rfl : k = xs.length := by omega
      rw [List.take_length]
      go_wp2_with fail
      go_ret
      exact ⟨ret_int (congrArg _ HXS.out), HB1.out.trans (HBx.out.mono HB1.out.size)⟩

/-! ### LastIndexAny -/
set_option maxRecDepth 100000 in
set_option maxHeartbeats 2000000 in
theorem gLast_none (s : ByteArray) (w : World) :
    Calls Tryd.prog 49 #[.string s, .string ByteArray.empty] w fun e w' => e = .returned (.int .i64 (lP s (hasR ByteArray.empty) (starts s 0))) ∧ Below w.heap.size w w' := by
  rw [lP_never s _ (hasR_none ByteArray.empty rfl)]
  go_enter Tryd.func49, Tryd.ntmps49
  go_wp2
  go_ret
  exact ⟨rfl, Below.refl _ _⟩

theorem lP_one (s : ByteArray) (h : s.size = 1) (p : Nat → Bool) : lP s p (starts s 0) = if p (Utf8.decode s 0).1 then 0 else -1 := by
  have hw := decode_width_pos s 0 (by omega)
  rw [starts_cons s 0 (by omega), starts_end s _ (by omega)]
  rfl

set_option maxRecDepth 100000 in
set_option maxHeartbeats 2000000 in
theorem gLast_one (s chars : ByteArray) (w : World) (hcs : chars.size < 4294967281) (h1 : s.size = 1) (hc1 : 1 ≤ chars.size) :
    Calls Tryd.prog 49 #[.string s, .string chars] w fun e w' => e = .returned (.int .i64 (lP s (hasR chars) (starts s 0))) ∧ Below w.heap.size w w' := by
  have hemp := not_empty (c := chars) hc1
  have hz1 : ((s.size : Int) == 1) = true := by rw [beq_iff_eq]; omega
  have hp : 0 < s.size := by omega
  have hb8 : (s[0]'hp).toNat < 256 := (s[0]'hp).toNat_lt
  rw [lP_one s h1]
  have hd := decode_one s h1
  rw [get_lt s 0 hp] at hd
  obtain ⟨R, hR⟩ : ∃ R, R = (Utf8.decode s 0).1 := ⟨_, rfl⟩
  rw [← hR] at hd ⊢
  have cI := gIndexRune chars (R : Int) w hcs
  have hval := hasR_iff chars R
  obtain ⟨V, hV⟩ : ∃ V, V = fP chars (isR (R : Int)) (starts chars 0) := ⟨_, rfl⟩
  rw [← hV] at cI hval
  have CI := Lib.hid cI
  clear hR hV cI h1
  by_cases hc : (s[0]'hp).toNat < 128
  all_goals
    first
      | (have hc' : ¬ (128 : Int) ≤ (s[0]'hp).toNat := by omega)
      | (have hc' : (128 : Int) ≤ (s[0]'hp).toNat := by omega)
    first
      | (rw [if_pos hc] at hd)
      | (rw [if_neg hc] at hd)
    subst hd
    cases hb : hasR chars _ with
    | true =>
      have hv0 := hval.1 hb
      clear hval hb
      go_enter Tryd.func49, Tryd.ntmps49
      go_wp2_with (go_at_call 63; refine CI.out.mono ?_; rintro e W' ⟨rfl, hB3⟩; have HB3 := Lib.hid hB3; clear hB3)
      go_ret
      exact ⟨rfl, HB3.out⟩
    | false =>
      have hv0 : ¬ 0 ≤ V := fun h => by rw [hval.2 h] at hb; cases hb
      clear hval hb
      go_enter Tryd.func49, Tryd.ntmps49
      go_wp2_with (go_at_call 63; refine CI.out.mono ?_; rintro e W' ⟨rfl, hB3⟩; have HB3 := Lib.hid hB3; clear hB3)
      go_ret
      exact ⟨rfl, HB3.out⟩

theorem head_take (s : ByteArray) (i : Nat) : (s.extract 0 i).data.toList = s.data.toList.take i := by
  rw [extract_data]; simp

/-- The last code point of a head of s that ends where the decoding from the front arrives. -/
theorem dLastAt (s : ByteArray) (a : Nat) (pre : List Nat) (w : World) (hs : s.size < 4294967281) (hb : Bd s a pre) (ha : a < s.size) (hT : Tabs w) :
    Calls Tryd.prog 67 #[.string (s.extract 0 (a + (Utf8.decode s a).2))] w fun e w' => e = .returned (.tuple #[.int .i32 (Utf8.decode s a).1, .int .i64 (Utf8.decode s a).2]) ∧ Below w.heap.size w w' := by
  have := dLast (s.extract 0 (a + (Utf8.decode s a).2)) w (by rw [ByteArray.size_extract]; omega) hT
  rw [head_take, decLast hb ha] at this
  exact this

set_option maxRecDepth 100000 in
set_option maxHeartbeats 4000000 in
theorem gLast_short (s chars : ByteArray) (w : World) (hs : s.size < 4294967281) (hcs : chars.size < 4294967281) (hT : Hid (Tabs w)) (hs1 : s.size ≠ 1) (h2 : 2 ≤ chars.size) (h8 : s.size ≤ 8) :
    Calls Tryd.prog 49 #[.string s, .string chars] w fun e w' => e = .returned (.int .i64 (lP s (hasR chars) (starts s 0))) ∧ Below w.heap.size w w' := by
  have hemp := not_empty (c := chars) (by omega)
  have hn1 : ((s.size : Int) == 1) = false := beq_eq_false_iff_ne.2 (by omega)
  have hz1 : ((chars.size : Int) == 1) = false := beq_eq_false_iff_ne.2 (by omega)
  have h8z : decide ((8 : Int) < (s.size : Int)) = false := decide_eq_false (by omega)
  go_enter Tryd.func49, Tryd.ntmps49
  go_wp2_with (go_at_call 64; refine (useSet _ _).mono ?_; rintro e w' ⟨rfl, rfl⟩; rw [h8z])
  go_loopg [13] s.size (fun g iv wx => ∃ (i : Nat) (pre : List Nat), i ≤ g ∧ i ≤ s.size ∧ iv = .int .i64 i ∧ Hid (Bd s i pre) ∧ Hid (lP s (hasR chars) pre = lP s (hasR chars) (starts s 0)) ∧ Hid (Below w.heap.size w wx))
  case atStart => exact ⟨s.size, starts s 0, Nat.le_refl _, Nat.le_refl _, rfl, Bd.all s, rfl, Below.refl _ _⟩
  case round =>
    obtain ⟨i, pre, hig, his, rfl, HBd, HF, HBw⟩ := hrel
    by_cases hi0 : 0 < i
    · obtain ⟨a, pre', hbd, ha, hia, hpre⟩ := HBd.out.inv hi0
      have hF := HF.out
      rw [hpre, lP_snoc] at hF
      have hw1 := decode_width_pos s a ha
      have cD := dLastAt s a pre' wr hs hbd ha (hT.out.below HBw.out)
      rw [← hia] at cD
      obtain ⟨R, hR⟩ : ∃ R, R = (Utf8.decode s a).1 := ⟨_, rfl⟩
      obtain ⟨K, hK⟩ : ∃ K, K = (Utf8.decode s a).2 := ⟨_, rfl⟩
      rw [← hR, ← hK] at cD
      rw [← hR] at hF
      rw [← hK] at hw1 hia
      have CD := Lib.hid cD
      have HBd' := Lib.hid hbd
      have hKi : K ≤ i := by omega
      have HA : Hid ((i : Int) - (K : Int) = ((a : Nat) : Int)) := by show _ = _; omega
      have hai : a < i := by omega
      have hsub : wrap64 ((i : Int) - (K : Int)) = (i : Int) - (K : Int) := IntWalk.wrap64_in _ ⟨by omega, by omega⟩
      have hval := hasR_iff chars R
      obtain ⟨V, hV⟩ : ∃ V, V = fP chars (isR (R : Int)) (starts chars 0) := ⟨_, rfl⟩
      have cI : ∀ W, Calls Tryd.prog 63 #[.string chars, .int .i32 (R : Int)] W fun e w' => e = .returned (.int .i64 V) ∧ Below W.heap.size W w' := fun W => by rw [hV]; exact gIndexRune chars (R : Int) W hcs
      rw [← hV] at hval
      have CI := Lib.hid cI
      clear hV cI
      clear hR hK hia hpre cD hbd
      cases hb : hasR chars R with
      | true =>
        rw [hb, if_pos rfl] at hF
        have HF' := Lib.hid hF
        clear hF
        have hv0 := hval.1 hb
        clear hval hb
        go_wp2_with (first | (go_at_call 67; refine CD.out.mono ?_; rintro e W2 ⟨rfl, hB2⟩; have HB2 := Lib.hid hB2; clear hB2) | (go_at_call 63; refine (CI.out _).mono ?_; rintro e W3 ⟨rfl, hB3⟩; have HB3 := Lib.hid hB3; clear hB3))
        go_ret
        exact ⟨ret_int (HA.out.trans HF'.out), (bl2 (bl2 HBw HB2.out) HB3.out).out⟩
      | false =>
        rw [hb, if_neg (by decide)] at hF
        have HF' := Lib.hid hF
        clear hF
        have hv0 : ¬ 0 ≤ V := fun h => by rw [hval.2 h] at hb; cases hb
        clear hval hb
        go_wp2_with (first | (go_at_call 67; refine CD.out.mono ?_; rintro e W2 ⟨rfl, hB2⟩; have HB2 := Lib.hid hB2; clear hB2) | (go_at_call 63; refine (CI.out _).mono ?_; rintro e W3 ⟨rfl, hB3⟩; have HB3 := Lib.hid hB3; clear hB3))
        go_roundg (gk - 1)
        case measure => omega
        case rel => exact ⟨a, pre', by omega, by omega, congrArg _ HA.out, HBd', HF', (bl2 (bl2 HBw HB2.out) HB3.out).out⟩
    · obtain rfl : i = 0 := by omega
      have hF := HF.out
      rw [HBd.out.zero_nil rfl, lP_nil] at hF
      have HF' := Lib.hid hF
      clear hF
      go_wp2_with fail
      go_ret
      exact ⟨ret_int HF'.out, HBw.out⟩

set_option maxRecDepth 100000 in
set_option maxHeartbeats 4000000 in
theorem gLast_wide (s chars : ByteArray) (w : World) (hs : s.size < 4294967281) (hcs : chars.size < 4294967281) (hT : Hid (Tabs w)) (hs1 : s.size ≠ 1) (h2 : 2 ≤ chars.size) (h8 : 8 < s.size) (q : Nat) (hq : q < chars.size) (hbad : 128 ≤ (chars[q]'hq).toNat) :
    Calls Tryd.prog 49 #[.string s, .string chars] w fun e w' => e = .returned (.int .i64 (lP s (hasR chars) (starts s 0))) ∧ Below w.heap.size w w' := by
  have hemp := not_empty (c := chars) (by omega)
  have hn1 : ((s.size : Int) == 1) = false := beq_eq_false_iff_ne.2 (by omega)
  have hz1 : ((chars.size : Int) == 1) = false := beq_eq_false_iff_ne.2 (by omega)
  have h8z : decide ((8 : Int) < (s.size : Int)) = true := decide_eq_true (by omega)
  have v38 := hvSet
  have HM := Lib.hid (makeASCIISet_no chars w hcs q hq hbad)
  clear hbad
  go_enter Tryd.func49, Tryd.ntmps49
  go_wp2_with (first
    | (go_at_call 64; refine (useSet _ _).mono ?_; rintro e w' ⟨rfl, rfl⟩; rw [h8z])
    | (go_at_call 65; refine HM.out.mono ?_; rintro e w' ⟨l, rfl, hw⟩; rw [hw]; clear hw)
    | (refine wpList_store_row rfl 73 _ _ rfl (w.heap.size + 1) (Lib.setCells l) rfl rfl 73 (Array.replicate 256 (.bool false)) (heap_last _ _ _ (by simp)) (by rw [Lib.setCells_size]; exact hiSet) (by rw [Lib.setCells_size, Array.size_replicate]) (Lib.setCells_one _) ?_; rw [setRow_last _ _ _ _ _ (by simp)]))
  clear HM
  go_loopg [13] s.size (fun g iv wx => ∃ (i : Nat) (pre : List Nat), i ≤ g ∧ i ≤ s.size ∧ iv = .int .i64 i ∧ Hid (Bd s i pre) ∧ Hid (lP s (hasR chars) pre = lP s (hasR chars) (starts s 0)) ∧ Hid (Below w.heap.size w wx))
  case atStart => exact ⟨s.size, starts s 0, Nat.le_refl _, Nat.le_refl _, rfl, Bd.all s, rfl, ((Below.refl _ w).alloc (Nat.le_refl _) _).alloc (by simp) _⟩
  case round =>
    obtain ⟨i, pre, hig, his, rfl, HBd, HF, HBw⟩ := hrel
    by_cases hi0 : 0 < i
    · obtain ⟨a, pre', hbd, ha, hia, hpre⟩ := HBd.out.inv hi0
      have hF := HF.out
      rw [hpre, lP_snoc] at hF
      have hw1 := decode_width_pos s a ha
      have cD := dLastAt s a pre' wr hs hbd ha (hT.out.below HBw.out)
      rw [← hia] at cD
      obtain ⟨R, hR⟩ : ∃ R, R = (Utf8.decode s a).1 := ⟨_, rfl⟩
      obtain ⟨K, hK⟩ : ∃ K, K = (Utf8.decode s a).2 := ⟨_, rfl⟩
      rw [← hR, ← hK] at cD
      rw [← hR] at hF
      rw [← hK] at hw1 hia
      have CD := Lib.hid cD
      have HBd' := Lib.hid hbd
      have hKi : K ≤ i := by omega
      have HA : Hid ((i : Int) - (K : Int) = ((a : Nat) : Int)) := by show _ = _; omega
      have hai : a < i := by omega
      have hsub : wrap64 ((i : Int) - (K : Int)) = (i : Int) - (K : Int) := IntWalk.wrap64_in _ ⟨by omega, by omega⟩
      have hval := hasR_iff chars R
      obtain ⟨V, hV⟩ : ∃ V, V = fP chars (isR (R : Int)) (starts chars 0) := ⟨_, rfl⟩
      have cI : ∀ W, Calls Tryd.prog 63 #[.string chars, .int .i32 (R : Int)] W fun e w' => e = .returned (.int .i64 V) ∧ Below W.heap.size W w' := fun W => by rw [hV]; exact gIndexRune chars (R : Int) W hcs
      rw [← hV] at hval
      have CI := Lib.hid cI
      clear hV cI
      clear hR hK hia hpre cD hbd
      cases hb : hasR chars R with
      | true =>
        rw [hb, if_pos rfl] at hF
        have HF' := Lib.hid hF
        clear hF
        have hv0 := hval.1 hb
        clear hval hb
        go_wp2_with (first | (go_at_call 67; refine CD.out.mono ?_; rintro e W2 ⟨rfl, hB2⟩; have HB2 := Lib.hid hB2; clear hB2) | (go_at_call 63; refine (CI.out _).mono ?_; rintro e W3 ⟨rfl, hB3⟩; have HB3 := Lib.hid hB3; clear hB3))
        go_ret
        exact ⟨ret_int (HA.out.trans HF'.out), (bl2 (bl2 HBw HB2.out) HB3.out).out⟩
      | false =>
        rw [hb, if_neg (by decide)] at hF
        have HF' := Lib.hid hF
        clear hF
        have hv0 : ¬ 0 ≤ V := fun h => by rw [hval.2 h] at hb; cases hb
        clear hval hb
        go_wp2_with (first | (go_at_call 67; refine CD.out.mono ?_; rintro e W2 ⟨rfl, hB2⟩; have HB2 := Lib.hid hB2; clear hB2) | (go_at_call 63; refine (CI.out _).mono ?_; rintro e W3 ⟨rfl, hB3⟩; have HB3 := Lib.hid hB3; clear hB3))
        go_roundg (gk - 1)
        case measure => omega
        case rel => exact ⟨a, pre', by omega, by omega, congrArg _ HA.out, HBd', HF', (bl2 (bl2 HBw HB2.out) HB3.out).out⟩
    · obtain rfl : i = 0 := by omega
      have hF := HF.out
      rw [HBd.out.zero_nil rfl, lP_nil] at hF
      have HF' := Lib.hid hF
      clear hF
      go_wp2_with fail
      go_ret
      exact ⟨ret_int HF'.out, HBw.out⟩

set_option maxRecDepth 100000 in
set_option maxHeartbeats 4000000 in
theorem gLast_short1a (s chars : ByteArray) (w : World) (hs : s.size < 4294967281) (hcs : chars.size < 4294967281) (hT : Hid (Tabs w)) (hs1 : s.size ≠ 1) (h1c : chars.size = 1) (hpc : 0 < chars.size) (hca : (chars[0]'hpc).toNat < 128) (h8 : s.size ≤ 8) :
    Calls Tryd.prog 49 #[.string s, .string chars] w fun e w' => e = .returned (.int .i64 (lP s (hasR chars) (starts s 0))) ∧ Below w.heap.size w w' := by
  have hemp := not_empty (c := chars) (by omega)
  have hn1 : ((s.size : Int) == 1) = false := beq_eq_false_iff_ne.2 (by omega)
  have hz1 : ((chars.size : Int) == 1) = true := by rw [beq_iff_eq]; omega
  have hb8 : (chars[0]'hpc).toNat < 256 := (chars[0]'hpc).toNat_lt
  have hc' : ¬ (128 : Int) ≤ (chars[0]'hpc).toNat := by omega
  have h8z : decide ((8 : Int) < (s.size : Int)) = false := decide_eq_false (by omega)
  go_enter Tryd.func49, Tryd.ntmps49
  go_wp2_with (go_at_call 64; refine (useSet _ _).mono ?_; rintro e w' ⟨rfl, rfl⟩; rw [h8z])
  go_loopg [10] s.size (fun g iv wx => ∃ (i : Nat) (pre : List Nat), i ≤ g ∧ i ≤ s.size ∧ iv = .int .i64 i ∧ Hid (Bd s i pre) ∧ Hid (lP s (hasR chars) pre = lP s (hasR chars) (starts s 0)) ∧ Hid (Below w.heap.size w wx))
  case atStart => exact ⟨s.size, starts s 0, Nat.le_refl _, Nat.le_refl _, rfl, Bd.all s, rfl, Below.refl _ _⟩
  case round =>
    obtain ⟨i, pre, hig, his, rfl, HBd, HF, HBw⟩ := hrel
    by_cases hi0 : 0 < i
    · obtain ⟨a, pre', hbd, ha, hia, hpre⟩ := HBd.out.inv hi0
      have hF := HF.out
      rw [hpre, lP_snoc] at hF
      have hw1 := decode_width_pos s a ha
      have cD := dLastAt s a pre' wr hs hbd ha (hT.out.below HBw.out)
      rw [← hia] at cD
      obtain ⟨R, hR⟩ : ∃ R, R = (Utf8.decode s a).1 := ⟨_, rfl⟩
      obtain ⟨K, hK⟩ : ∃ K, K = (Utf8.decode s a).2 := ⟨_, rfl⟩
      rw [← hR, ← hK] at cD
      rw [← hR] at hF
      rw [← hK] at hw1 hia
      have CD := Lib.hid cD
      have HBd' := Lib.hid hbd
      have hKi : K ≤ i := by omega
      have HA : Hid ((i : Int) - (K : Int) = ((a : Nat) : Int)) := by show _ = _; omega
      have hai : a < i := by omega
      have hsub : wrap64 ((i : Int) - (K : Int)) = (i : Int) - (K : Int) := IntWalk.wrap64_in _ ⟨by omega, by omega⟩
      have hone := hasR_one chars h1c R
      rw [decode_one chars h1c, get_lt chars 0 hpc] at hone
      rw [if_pos hca] at hone
      clear hR hK hia hpre cD hbd
      cases hb : hasR chars R with
      | true =>
        rw [hb, if_pos rfl] at hF
        have HF' := Lib.hid hF
        clear hF
        rw [hb] at hone
        have hb1 : ((((chars[0]'hpc).toNat : Nat) : Int) == (R : Int)) = true := by have := (isR_iff _ _).1 hone.symm; rw [beq_iff_eq]; omega
        clear hone hb
        go_wp2_with (go_at_call 67; refine CD.out.mono ?_; rintro e W2 ⟨rfl, hB2⟩; have HB2 := Lib.hid hB2; clear hB2)
        go_ret
        exact ⟨ret_int (HA.out.trans HF'.out), (bl2 HBw HB2.out).out⟩
      | false =>
        rw [hb, if_neg (by decide)] at hF
        have HF' := Lib.hid hF
        clear hF
        rw [hb] at hone
        have hb1 : ((((chars[0]'hpc).toNat : Nat) : Int) == (R : Int)) = false := by rw [beq_eq_false_iff_ne]; intro h; have := (isR_iff (((chars[0]'hpc).toNat : Nat) : Int) R).2 (by omega); rw [← hone] at this; cases this
        clear hone hb
        go_wp2_with (go_at_call 67; refine CD.out.mono ?_; rintro e W2 ⟨rfl, hB2⟩; have HB2 := Lib.hid hB2; clear hB2)
        go_roundg (gk - 1)
        case measure => omega
        case rel => exact ⟨a, pre', by omega, by omega, congrArg _ HA.out, HBd', HF', (bl2 HBw HB2.out).out⟩
    · obtain rfl : i = 0 := by omega
      have hF := HF.out
      rw [HBd.out.zero_nil rfl, lP_nil] at hF
      have HF' := Lib.hid hF
      clear hF
      go_wp2_with fail
      go_ret
      exact ⟨ret_int HF'.out, HBw.out⟩

set_option maxRecDepth 100000 in
set_option maxHeartbeats 4000000 in
theorem gLast_short1b (s chars : ByteArray) (w : World) (hs : s.size < 4294967281) (hcs : chars.size < 4294967281) (hT : Hid (Tabs w)) (hs1 : s.size ≠ 1) (h1c : chars.size = 1) (hpc : 0 < chars.size) (hca : ¬ (chars[0]'hpc).toNat < 128) (h8 : s.size ≤ 8) :
    Calls Tryd.prog 49 #[.string s, .string chars] w fun e w' => e = .returned (.int .i64 (lP s (hasR chars) (starts s 0))) ∧ Below w.heap.size w w' := by
  have hemp := not_empty (c := chars) (by omega)
  have hn1 : ((s.size : Int) == 1) = false := beq_eq_false_iff_ne.2 (by omega)
  have hz1 : ((chars.size : Int) == 1) = true := by rw [beq_iff_eq]; omega
  have hb8 : (chars[0]'hpc).toNat < 256 := (chars[0]'hpc).toNat_lt
  have hc' : (128 : Int) ≤ (chars[0]'hpc).toNat := by omega
  have h8z : decide ((8 : Int) < (s.size : Int)) = false := decide_eq_false (by omega)
  go_enter Tryd.func49, Tryd.ntmps49
  go_wp2_with (go_at_call 64; refine (useSet _ _).mono ?_; rintro e w' ⟨rfl, rfl⟩; rw [h8z])
  go_loopg [10] s.size (fun g iv wx => ∃ (i : Nat) (pre : List Nat), i ≤ g ∧ i ≤ s.size ∧ iv = .int .i64 i ∧ Hid (Bd s i pre) ∧ Hid (lP s (hasR chars) pre = lP s (hasR chars) (starts s 0)) ∧ Hid (Below w.heap.size w wx))
  case atStart => exact ⟨s.size, starts s 0, Nat.le_refl _, Nat.le_refl _, rfl, Bd.all s, rfl, Below.refl _ _⟩
  case round =>
    obtain ⟨i, pre, hig, his, rfl, HBd, HF, HBw⟩ := hrel
    by_cases hi0 : 0 < i
    · obtain ⟨a, pre', hbd, ha, hia, hpre⟩ := HBd.out.inv hi0
      have hF := HF.out
      rw [hpre, lP_snoc] at hF
      have hw1 := decode_width_pos s a ha
      have cD := dLastAt s a pre' wr hs hbd ha (hT.out.below HBw.out)
      rw [← hia] at cD
      obtain ⟨R, hR⟩ : ∃ R, R = (Utf8.decode s a).1 := ⟨_, rfl⟩
      obtain ⟨K, hK⟩ : ∃ K, K = (Utf8.decode s a).2 := ⟨_, rfl⟩
      rw [← hR, ← hK] at cD
      rw [← hR] at hF
      rw [← hK] at hw1 hia
      have CD := Lib.hid cD
      have HBd' := Lib.hid hbd
      have hKi : K ≤ i := by omega
      have HA : Hid ((i : Int) - (K : Int) = ((a : Nat) : Int)) := by show _ = _; omega
      have hai : a < i := by omega
      have hsub : wrap64 ((i : Int) - (K : Int)) = (i : Int) - (K : Int) := IntWalk.wrap64_in _ ⟨by omega, by omega⟩
      have hone := hasR_one chars h1c R
      rw [decode_one chars h1c, get_lt chars 0 hpc] at hone
      rw [if_neg hca] at hone
      clear hR hK hia hpre cD hbd
      cases hb : hasR chars R with
      | true =>
        rw [hb, if_pos rfl] at hF
        have HF' := Lib.hid hF
        clear hF
        rw [hb] at hone
        have hb1 : (((65533 : Nat) : Int) == (R : Int)) = true := by have := (isR_iff _ _).1 hone.symm; rw [beq_iff_eq]; omega
        clear hone hb
        go_wp2_with (go_at_call 67; refine CD.out.mono ?_; rintro e W2 ⟨rfl, hB2⟩; have HB2 := Lib.hid hB2; clear hB2)
        go_ret
        exact ⟨ret_int (HA.out.trans HF'.out), (bl2 HBw HB2.out).out⟩
      | false =>
        rw [hb, if_neg (by decide)] at hF
        have HF' := Lib.hid hF
        clear hF
        rw [hb] at hone
        have hb1 : (((65533 : Nat) : Int) == (R : Int)) = false := by rw [beq_eq_false_iff_ne]; intro h; have := (isR_iff ((65533 : Nat) : Int) R).2 (by omega); rw [← hone] at this; cases this
        clear hone hb
        go_wp2_with (go_at_call 67; refine CD.out.mono ?_; rintro e W2 ⟨rfl, hB2⟩; have HB2 := Lib.hid hB2; clear hB2)
        go_roundg (gk - 1)
        case measure => omega
        case rel => exact ⟨a, pre', by omega, by omega, congrArg _ HA.out, HBd', HF', (bl2 HBw HB2.out).out⟩
    · obtain rfl : i = 0 := by omega
      have hF := HF.out
      rw [HBd.out.zero_nil rfl, lP_nil] at hF
      have HF' := Lib.hid hF
      clear hF
      go_wp2_with fail
      go_ret
      exact ⟨ret_int HF'.out, HBw.out⟩

set_option maxRecDepth 100000 in
set_option maxHeartbeats 4000000 in
theorem gLast_wide1 (s chars : ByteArray) (w : World) (hs : s.size < 4294967281) (hcs : chars.size < 4294967281) (hT : Hid (Tabs w)) (hs1 : s.size ≠ 1) (h1c : chars.size = 1) (hpc : 0 < chars.size) (hca : ¬ (chars[0]'hpc).toNat < 128) (h8 : 8 < s.size) (q : Nat) (hq : q < chars.size) (hbad : 128 ≤ (chars[q]'hq).toNat) :
    Calls Tryd.prog 49 #[.string s, .string chars] w fun e w' => e = .returned (.int .i64 (lP s (hasR chars) (starts s 0))) ∧ Below w.heap.size w w' := by
  have hemp := not_empty (c := chars) (by omega)
  have hn1 : ((s.size : Int) == 1) = false := beq_eq_false_iff_ne.2 (by omega)
  have hz1 : ((chars.size : Int) == 1) = true := by rw [beq_iff_eq]; omega
  have hb8 : (chars[0]'hpc).toNat < 256 := (chars[0]'hpc).toNat_lt
  have hc' : (128 : Int) ≤ (chars[0]'hpc).toNat := by omega
  have h8z : decide ((8 : Int) < (s.size : Int)) = true := decide_eq_true (by omega)
  have v38 := hvSet
  have HM := Lib.hid (makeASCIISet_no chars w hcs q hq hbad)
  clear hbad
  go_enter Tryd.func49, Tryd.ntmps49
  go_wp2_with (first
    | (go_at_call 64; refine (useSet _ _).mono ?_; rintro e w' ⟨rfl, rfl⟩; rw [h8z])
    | (go_at_call 65; refine HM.out.mono ?_; rintro e w' ⟨l, rfl, hw⟩; rw [hw]; clear hw)
    | (refine wpList_store_row rfl 73 _ _ rfl (w.heap.size + 1) (Lib.setCells l) rfl rfl 73 (Array.replicate 256 (.bool false)) (heap_last _ _ _ (by simp)) (by rw [Lib.setCells_size]; exact hiSet) (by rw [Lib.setCells_size, Array.size_replicate]) (Lib.setCells_one _) ?_; rw [setRow_last _ _ _ _ _ (by simp)]))
  clear HM
  go_loopg [10] s.size (fun g iv wx => ∃ (i : Nat) (pre : List Nat), i ≤ g ∧ i ≤ s.size ∧ iv = .int .i64 i ∧ Hid (Bd s i pre) ∧ Hid (lP s (hasR chars) pre = lP s (hasR chars) (starts s 0)) ∧ Hid (Below w.heap.size w wx))
  case atStart => exact ⟨s.size, starts s 0, Nat.le_refl _, Nat.le_refl _, rfl, Bd.all s, rfl, ((Below.refl _ w).alloc (Nat.le_refl _) _).alloc (by simp) _⟩
  case round =>
    obtain ⟨i, pre, hig, his, rfl, HBd, HF, HBw⟩ := hrel
    by_cases hi0 : 0 < i
    · obtain ⟨a, pre', hbd, ha, hia, hpre⟩ := HBd.out.inv hi0
      have hF := HF.out
      rw [hpre, lP_snoc] at hF
      have hw1 := decode_width_pos s a ha
      have cD := dLastAt s a pre' wr hs hbd ha (hT.out.below HBw.out)
      rw [← hia] at cD
      obtain ⟨R, hR⟩ : ∃ R, R = (Utf8.decode s a).1 := ⟨_, rfl⟩
      obtain ⟨K, hK⟩ : ∃ K, K = (Utf8.decode s a).2 := ⟨_, rfl⟩
      rw [← hR, ← hK] at cD
      rw [← hR] at hF
      rw [← hK] at hw1 hia
      have CD := Lib.hid cD
      have HBd' := Lib.hid hbd
      have hKi : K ≤ i := by omega
      have HA : Hid ((i : Int) - (K : Int) = ((a : Nat) : Int)) := by show _ = _; omega
      have hai : a < i := by omega
      have hsub : wrap64 ((i : Int) - (K : Int)) = (i : Int) - (K : Int) := IntWalk.wrap64_in _ ⟨by omega, by omega⟩
      have hone := hasR_one chars h1c R
      rw [decode_one chars h1c, get_lt chars 0 hpc] at hone
      rw [if_neg hca] at hone
      clear hR hK hia hpre cD hbd
      cases hb : hasR chars R with
      | true =>
        rw [hb, if_pos rfl] at hF
        have HF' := Lib.hid hF
        clear hF
        rw [hb] at hone
        have hb1 : (((65533 : Nat) : Int) == (R : Int)) = true := by have := (isR_iff _ _).1 hone.symm; rw [beq_iff_eq]; omega
        clear hone hb
        go_wp2_with (go_at_call 67; refine CD.out.mono ?_; rintro e W2 ⟨rfl, hB2⟩; have HB2 := Lib.hid hB2; clear hB2)
        go_ret
        exact ⟨ret_int (HA.out.trans HF'.out), (bl2 HBw HB2.out).out⟩
      | false =>
        rw [hb, if_neg (by decide)] at hF
        have HF' := Lib.hid hF
        clear hF
        rw [hb] at hone
        have hb1 : (((65533 : Nat) : Int) == (R : Int)) = false := by rw [beq_eq_false_iff_ne]; intro h; have := (isR_iff ((65533 : Nat) : Int) R).2 (by omega); rw [← hone] at this; cases this
        clear hone hb
        go_wp2_with (go_at_call 67; refine CD.out.mono ?_; rintro e W2 ⟨rfl, hB2⟩; have HB2 := Lib.hid hB2; clear hB2)
        go_roundg (gk - 1)
        case measure => omega
        case rel => exact ⟨a, pre', by omega, by omega, congrArg _ HA.out, HBd', HF', (bl2 HBw HB2.out).out⟩
    · obtain rfl : i = 0 := by omega
      have hF := HF.out
      rw [HBd.out.zero_nil rfl, lP_nil] at hF
      have HF' := Lib.hid hF
      clear hF
      go_wp2_with fail
      go_ret
      exact ⟨ret_int HF'.out, HBw.out⟩

set_option maxRecDepth 100000 in
set_option maxHeartbeats 4000000 in
theorem gLast_set (s chars : ByteArray) (w : World) (hs : s.size < 4294967281) (hcs : chars.size < 4294967281) (h1 : 1 ≤ chars.size) (h8 : 8 < s.size) (ha : ∀ j, j < chars.size → (chars.get! j).toNat < 128) :
    Calls Tryd.prog 49 #[.string s, .string chars] w fun e w' => e = .returned (.int .i64 (lP s (hasR chars) (starts s 0))) ∧ Below w.heap.size w w' := by
  have hM := makeASCIISet chars w hcs (fun j b hb => by
    have hj : j < chars.size := by have := (List.getElem?_eq_some_iff.1 hb).1; simpa using this
    rw [get_at chars j hj] at hb
    rw [← Option.some.inj hb]; exact ha j hj)
  have HH : Hid (∀ k, k < s.size → chars.data.toList.contains (s.get! k) = true → (∀ j, k < j → j < s.size → chars.data.toList.contains (s.get! j) = false) → lP s (hasR chars) (starts s 0) = k) := setL_hit s chars ha
  have HMi : Hid ((∀ j, j < s.size → chars.data.toList.contains (s.get! j) = false) → lP s (hasR chars) (starts s 0) = -1) := setL_miss s chars ha
  clear ha
  have hemp := not_empty (c := chars) h1
  have hn1 : ((s.size : Int) == 1) = false := beq_eq_false_iff_ne.2 (by omega)
  have h8z : decide ((8 : Int) < (s.size : Int)) = true := decide_eq_true (by omega)
  have v38 := hvSet
  obtain ⟨l, hl⟩ : ∃ l, l = chars.data.toList := ⟨_, rfl⟩
  rw [← hl] at hM HH HMi
  have HM := Lib.hid hM
  clear hM hl
  go_enter Tryd.func49, Tryd.ntmps49
  go_wp2_with (first
    | (go_at_call 64; refine (useSet _ _).mono ?_; rintro e w' ⟨rfl, rfl⟩; rw [h8z])
    | (go_at_call 65; refine HM.out.mono ?_; rintro e w' ⟨rfl, hw⟩; rw [hw]; clear hw)
    | (refine wpList_store_row rfl 73 _ _ rfl (w.heap.size + 1) (Lib.setCells l) rfl rfl 73 (Array.replicate 256 (.bool false)) (heap_last _ _ _ (by simp)) (by rw [Lib.setCells_size]; exact hiSet) (by rw [Lib.setCells_size, Array.size_replicate]) (Lib.setCells_one _) ?_; rw [setRow_last _ _ _ _ _ (by simp)]))
  have HC : Hid (∀ x : UInt8, ((w.alloc (.cells (Lib.setCells l) 73)).alloc (.cells (Lib.setCells l) 73)).cell? ⟨w.heap.size + 1, x.toNat, none⟩ = some (.bool (l.contains x))) := fun x => by
    rw [World.cell?_alloc_at _ _ _ _ (by simp), Lib.setCells_at]
  have HB : Hid (Below w.heap.size w ((w.alloc (.cells (Lib.setCells l) 73)).alloc (.cells (Lib.setCells l) 73))) := ((Below.refl _ _).alloc (Nat.le_refl _) _).alloc (by simp) _
  generalize ((w.alloc (.cells (Lib.setCells l) 73)).alloc (.cells (Lib.setCells l) 73)) = W at HC HB ⊢
  clear HM
  go_loopg [8] s.size (fun g s8 wx => ∃ i : Nat, i ≤ s.size ∧ i ≤ g ∧ s8 = .int .i64 ((i : Int) - 1) ∧ W = wx ∧ Hid (∀ j, i ≤ j → j < s.size → l.contains (s.get! j) = false))
  case atStart => exact ⟨s.size, Nat.le_refl _, Nat.le_refl _, rfl, rfl, fun j h1 h2 => by omega⟩
  case round =>
    obtain ⟨i, hi1, hi2, rfl, rfl, HN⟩ := hrel
    by_cases hi : 0 < i
    · obtain ⟨k, rfl⟩ : ∃ k, i = k + 1 := ⟨i - 1, by omega⟩
      rw [show ((k + 1 : Nat) : Int) - 1 = (k : Int) by omega]
      have hk : k < s.size := by omega
      obtain ⟨x, hx⟩ : ∃ x : UInt8, s[k]'hk = x := ⟨_, rfl⟩
      have hxg : s.get! k = x := (get_lt s k hk).trans hx
      have hcx := HC.out x
      cases hin : l.contains x with
      | false =>
        rw [hin] at hcx
        have HN' : Hid (∀ j, k ≤ j → j < s.size → l.contains (s.get! j) = false) := fun j hj1 hj2 => by
          rcases Nat.eq_or_lt_of_le hj1 with h | h
          · rw [← h, hxg]; exact hin
          · exact HN.out j h hj2
        clear hxg hin
        go_wp2_with (go_at_call 66; refine (asciiSet_contains _ x _ _ hcx).mono ?_; rintro e w' ⟨rfl, hw⟩; rw [hw]; clear hw)
        go_roundg (gk - 1)
        case measure => omega
        case rel => exact ⟨k, by omega, by omega, rfl, rfl, HN'⟩
      | true =>
        rw [hin] at hcx
        have HT : Hid (lP s (hasR chars) (starts s 0) = k) := HH.out k hk (by rw [hxg]; exact hin) (fun j h1 h2 => HN.out j h1 h2)
        clear hxg hin
        go_wp2_with (go_at_call 66; refine (asciiSet_contains _ x _ _ hcx).mono ?_; rintro e w' ⟨rfl, hw⟩; rw [hw]; clear hw)
        go_ret
        exact ⟨ret_int HT.out.symm, HB.out⟩
    · obtain rfl : i = 0 := by omega
      have HT : Hid (lP s (hasR chars) (starts s 0) = -1) := HMi.out (fun j hj => HN.out j (Nat.zero_le _) hj)
      rw [show ((0 : Nat) : Int) - 1 = -1 by omega]
      go_wp2_with fail
      go_ret
      exact ⟨ret_int HT.out.symm, HB.out⟩

/-- gostrings.LastIndexAny: the last place of one of some code points, whatever the bytes. -/
theorem gLastIndexAny (s chars : ByteArray) (w : World) (hs : s.size < 4294967281) (hcs : chars.size < 4294967281) (hT : Tabs w) :
    Calls Tryd.prog 49 #[.string s, .string chars] w fun e w' => e = .returned (.int .i64 (lP s (hasR chars) (starts s 0))) ∧ Below w.heap.size w w' := by
  by_cases h0 : chars.size = 0
  · rw [empty_of chars h0]; exact gLast_none s w
  by_cases hs1 : s.size = 1
  · exact gLast_one s chars w hcs hs1 (by omega)
  by_cases h8 : s.size ≤ 8
  · by_cases h1 : chars.size = 1
    · have hpc : 0 < chars.size := by omega
      by_cases hca : (chars[0]'hpc).toNat < 128
      · exact gLast_short1a s chars w hs hcs hT hs1 h1 hpc hca h8
      · exact gLast_short1b s chars w hs hcs hT hs1 h1 hpc hca h8
    · exact gLast_short s chars w hs hcs hT hs1 (by omega) h8
  by_cases ha : ∀ j, j < chars.size → (chars.get! j).toNat < 128
  · exact gLast_set s chars w hs hcs (by omega) (by omega) ha
  · obtain ⟨q, hq⟩ := Classical.not_forall.1 ha
    obtain ⟨hq1, hq2⟩ := Classical.not_imp.1 hq
    have hbad : 128 ≤ (chars[q]'hq1).toNat := by rw [← get_lt chars q hq1]; omega
    by_cases h1 : chars.size = 1
    · have hpc : 0 < chars.size := by omega
      obtain rfl : q = 0 := by omega
      exact gLast_wide1 s chars w hs hcs hT hs1 h1 hpc (by omega) (by omega) 0 hq1 hbad
    · exact gLast_wide s chars w hs hcs hT hs1 (by omega) (by omega) q hq1 hbad

theorem StrLastIndexAny (s chars : ByteArray) (w : World) (hs : s.size < 4294967281) (hcs : chars.size < 4294967281) (hT : Tabs w) :
    Calls Tryd.prog 31 #[.string s, .string chars] w fun e w' => e = .returned (.int .i64 (lP s (hasR chars) (starts s 0))) ∧ Below w.heap.size w w' := by
  go_enter Tryd.func31, Tryd.ntmps31
  go_wp2_with fail
  refine (gLastIndexAny s chars _ hs hcs hT).mono ?_
  rintro e w' ⟨rfl, hB⟩
  go_wp2_with fail
  go_ret
  exact ⟨rfl, hB⟩
end Go.Proofs.YtblaldahhhokmaaDoor

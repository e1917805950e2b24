/- Pieces of bytes: what gobytes.genSplit hands back. -/
import Derived.Test.YtpaieadnicmplaaDoorBSpl
import Derived.Test.YtpaieadnicmplaaDoorSplP
import Derived.Test.YtpaieadnicmplaaDoorWAlgCount
set_option linter.unusedVariables false
namespace Go.Proofs.YtpaieadnicmplaaDoor
open Go.RowKit Go.Lib

/-- The slice value v reads as pieces of bytes. -/
def BssAt (w : World) (v : Value) (xs : List ByteArray) : Prop :=
  ∃ (A : Option Addr) (c : Nat), v = .slice A xs.length c ∧ xs.length ≤ c ∧ (xs ≠ [] → ∃ G o, A = some ⟨G, o, none⟩ ∧ G < w.heap.size ∧ ∀ j x, xs[j]? = some x → ∃ g f cp, w.cell? ⟨G, o + j, none⟩ = some (.slice (some ⟨g, f, none⟩) x.size cp) ∧ g < w.heap.size ∧ Lib.Bytes w g f x)
theorem BssAt.nil (w : World) : BssAt w (.slice none 0 0) [] := ⟨none, 0, rfl, Nat.le_refl _, fun h => absurd rfl h⟩
theorem BssAt.below {w w' : World} {v : Value} {xs : List ByteArray} (h : BssAt w v xs) (hb : Below w.heap.size w w') : BssAt w' v xs := by
  obtain ⟨A, c, e, hc, hx⟩ := h
  refine ⟨A, c, e, hc, fun hne => ?_⟩
  obtain ⟨G, o, eA, hG, hcell⟩ := hx hne
  refine ⟨G, o, eA, Nat.lt_of_lt_of_le hG hb.size, fun j x hj => ?_⟩
  obtain ⟨g, f, cp, h1, h2, h3⟩ := hcell j x hj
  exact ⟨g, f, cp, (hb.cell (p := ⟨G, o + j, none⟩) hG).trans h1, Nat.lt_of_lt_of_le h2 hb.size, bytes_below h3 hb h2⟩
theorem byt_from {w : World} {g o : Nat} {x : ByteArray} (h : Lib.Bytes w g o x) (k : Nat) (hk : k ≤ x.size) : Lib.Bytes w g (o + k) (x.extract k x.size) := fun i hi => by
  rw [ByteArray.size_extract] at hi
  have := h (k + i) (by omega)
  rw [Nat.add_assoc, this, ByteArray.getElem_extract]
theorem byt_to {w : World} {g o : Nat} {x : ByteArray} (h : Lib.Bytes w g o x) (k : Nat) (hk : k ≤ x.size) : Lib.Bytes w g o (x.extract 0 k) := fun i hi => by
  rw [ByteArray.size_extract] at hi
  have := h i (by omega)
  rw [this, ByteArray.getElem_extract]
  simp
theorem byt_nil (w : World) (g o : Nat) {x : ByteArray} (h : x.size = 0) : Lib.Bytes w g o x := fun i hi => absurd hi (by omega)
/-- The pieces' slices and the pieces. -/
theorem splitV_pcs {w : World} {g : Nat} {sep : ByteArray} {sv : Nat} (hsv : sv ≤ sep.size) : ∀ (k o cap : Nat) (x : ByteArray), Lib.Bytes w g o x → x.size ≤ cap →
    (splitV sep.data.toList sv k ⟨g, o, none⟩ cap x.data.toList).length = (splitB sep sv k x).length ∧ ∀ (j : Nat) (y : ByteArray), (splitB sep sv k x)[j]? = some y → ∃ f cp, (splitV sep.data.toList sv k ⟨g, o, none⟩ cap x.data.toList)[j]? = some (Value.slice (some ⟨g, f, none⟩) y.size cp) ∧ Lib.Bytes w g f y
  | 0, o, cap, x, hx, hc => by
    refine ⟨rfl, fun j y hy => ?_⟩
    cases j with
    | zero => cases hy; exact ⟨o, cap, by simp [splitV], hx⟩
    | succ j => simp [splitB] at hy
  | k + 1, o, cap, x, hx, hc => by
    rcases Lib.indexB_cases x sep with hm | ⟨i, hi, hroom⟩
    · rw [splitB_miss _ _ _ _ hm, splitV_miss _ _ _ _ _ _ hm]
      refine ⟨rfl, fun j y hy => ?_⟩
      cases j with
      | zero => cases hy; exact ⟨o, cap, by simp, hx⟩
      | succ j => simp at hy
    · rw [splitB_hit _ _ _ _ i hi, splitV_hit _ _ _ _ _ _ i hi, ← Lib.size_eq sep, ← Lib.extract_to_end]
      have hsz : (x.extract (i + sep.size) x.size).size = x.size - (i + sep.size) := by rw [ByteArray.size_extract]; omega
      obtain ⟨o', ho, hB⟩ : ∃ o', tailAddr ⟨g, o, none⟩ cap (i + sep.size) = ⟨g, o', none⟩ ∧ Lib.Bytes w g o' (x.extract (i + sep.size) x.size) := by
        unfold tailAddr
        by_cases h : cap = i + sep.size
        · rw [if_pos h]; exact ⟨o, rfl, byt_nil _ _ _ (by omega)⟩
        · rw [if_neg h, Addr.add_mid]; exact ⟨_, rfl, byt_from hx _ (by omega)⟩
      rw [ho]
      obtain ⟨h1, h2⟩ := splitV_pcs hsv k o' (cap - (i + sep.size)) _ hB (by omega)
      refine ⟨by rw [List.length_cons, List.length_cons, h1], fun j y hy => ?_⟩
      cases j with
      | zero =>
        have hy' : x.extract 0 (i + sv) = y := Option.some.inj hy
        have hys : y.size = i + sv := by rw [← hy', ByteArray.size_extract]; omega
        refine ⟨o, i + sv, by rw [hys]; rfl, ?_⟩
        rw [← hy']
        exact byt_to hx _ (by omega)
      | succ j => exact h2 j y hy
/-- The numbers of bytes. -/
def nums (s : ByteArray) : List Int := s.data.toList.map fun x => (x.toNat : Int)
theorem nums_len (s : ByteArray) : (nums s).length = s.size := by rw [nums, List.length_map, ← Lib.size_eq]
theorem nums_bytes (s : ByteArray) : Lib.bytesOf (nums s) = s.data.toList := by
  unfold nums Lib.bytesOf
  rw [List.map_map]
  conv => rhs; rw [← List.map_id s.data.toList]
  congr 1
  funext x
  simp
theorem nums_in (s : ByteArray) : ∀ x ∈ nums s, 0 ≤ x ∧ x < 256 := fun x hx => by
  obtain ⟨y, _, rfl⟩ := List.mem_map.1 hx
  have := y.toNat_lt
  omega
theorem nums_cells {w : World} {g : Nat} {s : ByteArray} (h : Lib.Bytes w g 0 s) : ∀ i, i < s.size → w.cell? ((⟨g, 0, none⟩ : Addr).add i) = some (.int .u8 ((nums s).getD i 0)) := fun i hi => by
  rw [Addr.add_mid, h i hi]
  have : (nums s).getD i 0 = (s[i].toNat : Int) := by
    rw [nums, List.getD_eq_getElem?_getD, List.getElem?_map, byte_at s i hi]; rfl
  rw [this]
set_option maxRecDepth 100000 in
/-- gobytes.Count. -/
theorem gbCount (s sep : ByteArray) (g c1 g2 c2 : Nat) (w : World) (hB : Lib.Bytes w g 0 s) (hB2 : Lib.Bytes w g2 0 sep) (hcap : s.size ≤ c1) (hs : s.size < 4294967281) (hp : sep.size < 4294967281) (h1 : 1 ≤ sep.size) :
    Calls Tryd.prog 55 #[.slice (some ⟨g, 0, none⟩) s.size c1, .slice (some ⟨g2, 0, none⟩) sep.size c2] w fun e w' => e = .returned (.int .i64 (Lib.count s.data.toList sep.data.toList)) ∧ ∃ q, w' = w.drewN q := by
  by_cases hk : sep.size = 1
  · have h0 := hB2 0 (by omega)
    have hb256 := (sep[0]).toNat_lt
    have hC := CountB s (sep[0].toNat : Int) g 0 c1 w (by omega) (by omega) hs hB
    have e : (cnt s (sep[0].toNat : Int) s.size : Int) = (Lib.count s.data.toList sep.data.toList : Int) := by
      have hl : sep.data.toList = [sep[0]] := by
        apply List.ext_getElem?
        intro i
        cases i with
        | zero => rw [byte_at sep 0 (by omega)]; rfl
        | succ i => rw [List.getElem?_eq_none (by rw [← Lib.size_eq]; omega), List.getElem?_eq_none (by simp)]
      rw [hl, Lib.count_one, cnt, List.take_of_length_le (by rw [← Lib.size_eq]; omega)]
      congr 2
      rw [Int.toNat_natCast]
      exact UInt8.ofNat_toNat
    rw [e] at hC
    have HC := Lib.hid hC
    clear e hC
    rw [Nat.add_zero] at h0
    rw [hk]
    generalize (sep[0]).toNat = b0 at h0 HC
    clear hb256 hB hB2 hk h1
    go_enter Tryd.func55, Tryd.ntmps55
    go_wp2_with (go_at_call 62; refine HC.out.mono ?_; rintro e w' ⟨rfl, rfl⟩)
    go_ret
    exact ⟨rfl, 0, rfl⟩
  · have := gbCount_at ⟨g, 0, none⟩ ⟨g2, 0, none⟩ s.size c1 sep.size c2 (nums s) (nums sep) w (nums_len s) (nums_len sep) (nums_in s) (nums_in sep) (nums_cells hB) (nums_cells hB2) hcap hs (by omega) (by omega)
    rw [nums_bytes, nums_bytes] at this
    exact this
/-- gobytes.genSplit at a separator that is not empty. -/
theorem gbGen_at (s sep : ByteArray) (sv : Nat) (n : Int) (g c1 g2 c2 : Nat) (w : World) (hB : Lib.Bytes w g 0 s) (hB2 : Lib.Bytes w g2 0 sep) (hg : g < w.heap.size) (hg2 : g2 < w.heap.size) (hcap : s.size ≤ c1) (hs : s.size < 4294967281) (hp : sep.size < 4294967281) (h1 : 1 ≤ sep.size) (hsv : sv ≤ sep.size) (hn0 : n ≠ 0) (hn63 : n ≤ 9223372036854775807) :
    Calls Tryd.prog 44 #[.slice (some ⟨g, 0, none⟩) s.size c1, .slice (some ⟨g2, 0, none⟩) sep.size c2, .int .i64 sv, .int .i64 n] w fun e w' => ∃ v, e = .returned v ∧ BssAt w' v (pcs s sep sv n) ∧ Below w.heap.size w w' := by
  have hcore := gbgenSplit_core ⟨g, 0, none⟩ ⟨g2, 0, none⟩ s.size c1 sep.size c2 (nums s) sep.data.toList sv n (pN s sep n) w (nums_len s) (nums_in s) (nums_cells hB) hcap hs h1 (by omega) (by rw [← Lib.size_eq]) hsv
    (fun a zs ln cap q c hz hrz hcz hcp hln => by
      have := gbIndexA a ⟨g2, 0, none⟩ ln cap sep.size c2 zs (nums sep) ((w.alloc (.cells c 23)).drewN q) hz (nums_len sep) hrz (nums_in sep)
        (fun i hi => by rw [World.cell?_drewN]; exact Lib.cell?_alloc_marked _ (hcz i hi)) (fun i hi => by rw [World.cell?_drewN]; exact Lib.cell?_alloc_marked _ (nums_cells hB2 i hi)) hcp (by omega) h1
      rw [nums_bytes] at this
      exact this.mono fun e w' ⟨he, q', hw⟩ => ⟨he, q + q', by rw [hw, World.drewN_drewN]⟩)
    (by rw [nums_bytes]; exact gbCount s sep g c1 g2 c2 w hB hB2 hcap hs hp h1) hn0 hn63 (by rw [nums_bytes]; exact pN_eq s sep n hn0)
  rw [nums_bytes] at hcore
  have hpl := pcs_len s sep sv n hn0
  obtain ⟨hl, hat⟩ := splitV_pcs (sep := sep) hsv (pN s sep n - 1) 0 c1 s hB hcap
  refine hcore.mono ?_
  rintro e w' ⟨rfl, q, rfl⟩
  have hb : Below w.heap.size w ((w.alloc (.cells (cellsOfV (splitV sep.data.toList sv (pN s sep n - 1) ⟨g, 0, none⟩ c1 s.data.toList) (pN s sep n)) 23)).drewN q) := ((Below.refl _ w).alloc (Nat.le_refl _) _).trans (belowDrewN (Below.refl _ _) q)
  refine ⟨_, rfl, ⟨_, _, by rw [hl]; rfl, hpl, fun _ => ⟨w.heap.size, 0, rfl, ?_, fun j x hj => ?_⟩⟩, hb⟩
  · have := hb.size; simp
  · obtain ⟨f, cp, h1, h2⟩ := hat j x hj
    refine ⟨g, f, cp, ?_, Nat.lt_of_lt_of_le hg hb.size, bytes_below h2 hb hg⟩
    rw [World.cell?_drewN, Nat.zero_add, World.cell?_alloc_at _ _ _ _ rfl]
    unfold cellsOfV
    have hj' := (List.getElem?_eq_some_iff.1 h1).1
    rw [List.getElem?_toArray, List.getElem?_append_left hj', h1]
end Go.Proofs.YtpaieadnicmplaaDoor

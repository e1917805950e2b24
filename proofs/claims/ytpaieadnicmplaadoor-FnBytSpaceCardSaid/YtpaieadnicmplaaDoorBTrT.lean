/- gobytes.TrimSpace. -/
import Derived.Test.YtpaieadnicmplaaDoorBTrS
set_option linter.unusedVariables false
namespace Go.Proofs.YtpaieadnicmplaaDoor
open Go.Shelf Go.RowKit Go.Lib

theorem hidS {p : Prop} (h : p) : Hid p := h
theorem baEq (s : ByteArray) (l : List UInt8) (h : s.data.toList = l) : s = ⟨l.toArray⟩ := by cases s; subst h; rfl
/-- gobytes' table of white space among ASCII bytes. -/
def AscB (w : World) : Prop := ∀ c : Nat, c < 256 → w.cell? ⟨0, c, none⟩ = some (.int .u8 (if Lib.isSp (UInt8.ofNat c) then 1 else 0))
theorem AscB.below {w w' : World} (h : AscB w) (hb : Below w.heap.size w w') : AscB w' := fun c hc => cell_later hb (h c hc)
/-- The trimmed text. -/
def trB (s : ByteArray) : ByteArray := ⟨(Lib.trimSpaceD s.data.toList).toArray⟩
theorem trB_front (s : ByteArray) (k : Nat) (hk : k ≤ s.size) (h1 : ∀ (j : Nat) b, j < k → s.data.toList[j]? = some b → Lib.isSp b = true) : Lib.goTrim (s.extract k s.size) = trB s := by
  unfold trB
  rw [Lib.exit_func s.data.toList k (by rw [← Lib.size_eq]; exact hk) h1]
  exact baEq _ _ (by rw [Lib.goTrim_eq, Lib.extract_data, List.take_of_length_le (by rw [List.length_drop, ← Lib.size_eq]; exact Nat.le_refl _)])
theorem trB_end (s : ByteArray) (k m : Nat) (hm : k + m < s.size) (h1 : ∀ (j : Nat) b, j < k → s.data.toList[j]? = some b → Lib.isSp b = true) (x : UInt8) (hx : s.data.toList[k]? = some x) (hns : Lib.isSp x = false) (hxa : x.toNat < 128) (h4 : ∀ (j : Nat) b, k + m < j → s.data.toList[j]? = some b → Lib.isSp b = true) :
    Lib.goTrim (s.extract k (k + m + 1)) = trB s := by
  unfold trB
  rw [Lib.exit_right s.data.toList k (k + m) (by omega) (by rw [← Lib.size_eq]; omega) h1 x hx hns hxa h4]
  refine baEq _ _ ?_
  rw [Lib.goTrim_eq, Lib.extract_data]
  obtain ⟨X, hX⟩ : ∃ X, X = (s.data.toList.drop k).take (k + m + 1 - k) := ⟨_, rfl⟩
  rw [← hX]
  have hlen : X.length = m + 1 := by rw [hX, List.length_take, List.length_drop, ← Lib.size_eq]; omega
  have hx0 : X[0]? = some x := by rw [hX, List.getElem?_take, if_pos (by omega), List.getElem?_drop, Nat.add_zero, hx]
  unfold Lib.trimSpaceD
  rw [Lib.left_done X 0 (by omega) (fun j b hj => absurd hj (Nat.not_lt_zero _)) x hx0 hns hxa, List.drop_zero]
theorem trB_cut (s : ByteArray) (k m : Nat) (hm : k + m < s.size) (h1 : ∀ (j : Nat) b, j < k → s.data.toList[j]? = some b → Lib.isSp b = true) (x : UInt8) (hx : s.data.toList[k]? = some x) (hns : Lib.isSp x = false) (hxa : x.toNat < 128)
    (y : UInt8) (hy : s.data.toList[k + m]? = some y) (hny : Lib.isSp y = false) (hya : y.toNat < 128) (h4 : ∀ (j : Nat) b, k + m < j → s.data.toList[j]? = some b → Lib.isSp b = true) :
    s.extract k (k + m + 1) = trB s := by
  unfold trB
  rw [Lib.exit_cut s.data.toList k (k + m) (by omega) (by rw [← Lib.size_eq]; omega) h1 x hx hns hxa y hy hny hya h4]
  exact baEq _ _ (by rw [Lib.extract_data])
theorem trB_all (s : ByteArray) (h : ∀ (j : Nat) b, j < s.size → s.data.toList[j]? = some b → Lib.isSp b = true) : (trB s).size = 0 := by
  unfold trB
  rw [Lib.exit_all s.data.toList (fun j b hb => h j b (by rw [Lib.size_eq]; exact (List.getElem?_eq_some_iff.1 hb).1) hb)]
  rfl
theorem bytes_sub {w : World} {b : Nat} {s : ByteArray} (h : Lib.Bytes w b 0 s) (k e : Nat) (hk : k ≤ e) (he : e ≤ s.size) : Lib.Bytes w b k (s.extract k e) := fun i hi => by
  rw [ByteArray.size_extract] at hi
  have := h (k + i) (by omega)
  rw [Nat.zero_add] at this
  rw [this, ByteArray.getElem_extract]
theorem size_sub (s : ByteArray) (k e : Nat) (hk : k ≤ e) (he : e ≤ s.size) : (s.extract k e).size = e - k := by rw [ByteArray.size_extract]; omega
/-- A slice value that reads as the bytes t of block b is handed back. -/
def SlR (w : World) (b : Nat) (t : ByteArray) (e : Ending) (w' : World) : Prop := ∃ v, e = .returned v ∧ SlB w' v b t ∧ Below w.heap.size w w'

set_option maxHeartbeats 4000000 in
set_option maxRecDepth 100000 in
theorem gbTrimSpace (s : ByteArray) (b c : Nat) (w : World) (hB : Lib.Bytes w b 0 s) (hb : b < w.heap.size) (hc : s.size ≤ c) (hs : s.size ≤ 2147483648) (hA : AscB w) (hU8 : Tabs w) (hWS : White w) :
    Calls Tryd.prog 31 #[.slice (some ⟨b, 0, none⟩) s.size c] w (SlR w b (trB s)) := by
  have eg : ∀ args w, (callFunc 47 args).run Tryd.prog w = .ok (.enter 47 args) w := enters_of Tryd.func47 (by kernel_rfl) rfl
  have hF := fun (X : ByteArray) (o cp : Nat) (h1 : X.size ≤ cp) (h2 : X.size ≤ 9223372036854775807) (h3 : Lib.Bytes w b o X) => gbTrimFunc 47 #[] eg isSpaceR X b o cp w h1 h2 (bytesAt_of h3) hU8 (PredAtRunes.grows (space_pays w hWS))
  have HF := hidS hF
  have HT := hidS hA
  have HB := hidS hB
  clear hF hA hB hU8 hWS eg
  go_enter Tryd.func31, Tryd.ntmps31
  go_wp2
  go_loop [9, 0] (fun i s0 => s0 = .slice (some ⟨b, 0, none⟩) s.size c ∧ ∃ k : Nat, k ≤ s.size ∧ i = .int .i64 k ∧ Hid (∀ (j : Nat) b, j < k → s.data.toList[j]? = some b → Lib.isSp b = true)) (fun i _ => s.size - (RowKit.intOf i).toNat)
  case atStart => exact ⟨rfl, 0, Nat.zero_le _, rfl, fun j b hj => absurd hj (Nat.not_lt_zero _)⟩
  case round =>
    obtain ⟨rfl, k, hk, rfl, hsp⟩ := hrel
    by_cases hkn : k < s.size
    · have hkz : (k : Int) < (s.size : Int) := by omega
      have hca : ¬ c = k := by omega
      obtain ⟨x, hx⟩ : ∃ x, x = s[k] := ⟨_, rfl⟩
      have hxk : s.data.toList[k]? = some x := by rw [hx]; exact byte_at s k hkn
      have hc1 : w.cell? ⟨b, k, none⟩ = some (.int .u8 x.toNat) := by have := HB.out k hkn; rw [Nat.zero_add] at this; rw [hx]; exact this
      by_cases h128 : (128 : Int) ≤ (x.toNat : Int)
      case pos =>
        -- a byte from 128 on, from the front
        have hsz : (s.extract k s.size).size = s.size - k := size_sub s k s.size hk (Nat.le_refl _)
        have hBk := bytes_sub HB.out k s.size hk (Nat.le_refl _)
        have cF := HF.out (s.extract k s.size) k (c - k) (by omega) (by omega) hBk
        have hR := trimCut_reads (s.extract k s.size) b k (c - k) w (by omega) hBk
        rw [trB_front s k hk hsp.out] at hR
        rw [hsz] at cF
        have HR := hidS hR
        have CF := hidS cF
        clear hx hxk hsz hBk cF hR
        go_wp2_with (go_at_call 46; refine CF.out.mono ?_; rintro e W' ⟨rfl, hbl⟩)
        go_ret
        exact ⟨_, rfl, HR.out.below hb hbl, hbl⟩
      have hTx : w.cell? ⟨0, x.toNat, none⟩ = some (.int .u8 (if Lib.isSp x then 1 else 0)) := by
        have := HT.out x.toNat (UInt8.toNat_lt x)
        simpa using this
      have Hxk := hidS hxk
      clear hx hxk
      cases hsx : Lib.isSp x with
      | true =>
        rw [hsx] at hTx
        simp only [if_true] at hTx
        go_wp2
        go_round
        case rel =>
          refine ⟨rfl, k + 1, by omega, by go_num, fun j b hj hb => ?_⟩
          by_cases e : j = k
          · subst e
            rw [Hxk.out] at hb
            cases hb
            exact hsx
          · exact hsp.out j b (by omega) hb
        case measure => simp [RowKit.intOf]; omega
      | false =>
        rw [hsx] at hTx
        simp only [Bool.false_eq_true, if_false] at hTx
        go_wp2
        go_loop [5] (fun h => ∃ m : Nat, m < s.size - k ∧ h = .int .i64 m ∧ Hid (∀ (j : Nat) b, k + m < j → s.data.toList[j]? = some b → Lib.isSp b = true)) (fun h => (RowKit.intOf h).toNat)
        case atStart =>
          refine ⟨s.size - k - 1, by omega, by go_num, fun j b hj hb => ?_⟩
          have : s.data.toList.length ≤ j := by rw [← Lib.size_eq]; omega
          simp [List.getElem?_eq_none this] at hb
        case round =>
          obtain ⟨m, hm, rfl, hsp2⟩ := hrel
          have hkm : k + m < s.size := by omega
          obtain ⟨y, hy⟩ : ∃ y, y = s[k + m] := ⟨_, rfl⟩
          have hsm : s.data.toList[k + m]? = some y := by rw [hy]; exact byte_at s (k + m) hkm
          have hc2 : w.cell? ⟨b, k + m, none⟩ = some (.int .u8 y.toNat) := by have := HB.out (k + m) hkm; rw [Nat.zero_add] at this; rw [hy]; exact this
          have hsz : (s.extract k (k + m + 1)).size = m + 1 := by rw [size_sub s k (k + m + 1) (by omega) (by omega)]; omega
          have hBk := bytes_sub HB.out k (k + m + 1) (by omega) (by omega)
          by_cases hy128 : (128 : Int) ≤ (y.toNat : Int)
          case pos =>
            -- a byte from 128 on, from the end
            have cF := HF.out (s.extract k (k + m + 1)) k (c - k) (by omega) (by omega) hBk
            have hR := trimCut_reads (s.extract k (k + m + 1)) b k (c - k) w (by omega) hBk
            rw [trB_end s k m hkm hsp.out x Hxk.out hsx (by omega) hsp2.out] at hR
            rw [hsz] at cF
            have HR := hidS hR
            have CF := hidS cF
            clear hy hsm hsz hBk cF hR
            go_wp2_with (go_at_call 46; refine CF.out.mono ?_; rintro e W' ⟨rfl, hbl⟩)
            go_ret
            exact ⟨_, rfl, HR.out.below hb hbl, hbl⟩
          have hTy : w.cell? ⟨0, y.toNat, none⟩ = some (.int .u8 (if Lib.isSp y then 1 else 0)) := by
            have := HT.out y.toNat (UInt8.toNat_lt _)
            simpa using this
          have Hsm := hidS hsm
          clear hsm hy
          cases hsy : Lib.isSp y with
          | true =>
            rw [hsy] at hTy
            simp only [if_true] at hTy
            have hm0 : 0 < m := by
              rcases Nat.eq_zero_or_pos m with e | e
              · subst e
                have h1 := Hsm.out
                rw [Nat.add_zero, Hxk.out] at h1
                cases h1
                rw [hsx] at hsy
                cases hsy
              · exact e
            clear hsz hBk
            go_wp2
            go_round
            case rel =>
              refine ⟨m - 1, by omega, by go_num, fun j b hj hb => ?_⟩
              by_cases e : j = k + m
              · subst e
                rw [Hsm.out] at hb
                cases hb
                exact hsy
              · exact hsp2.out j b (by omega) hb
            case measure => simp [RowKit.intOf]; omega
          | false =>
            rw [hsy] at hTy
            simp only [Bool.false_eq_true, if_false] at hTy
            rw [trB_cut s k m hkm hsp.out x Hxk.out hsx (by omega) y Hsm.out hsy (by omega) hsp2.out] at hsz hBk
            have HBk := hidS hBk
            have HSz := hidS hsz
            clear hsz hBk
            go_wp2
            go_ret
            exact ⟨_, rfl, .inr ⟨k, c - k, by rw [HSz.out]; first | rfl | (rw [show ((m : Int) + 1).toNat = m + 1 by omega]), by have := HSz.out; omega, HBk.out⟩, Below.refl _ _⟩
    · have hke : k = s.size := by omega
      subst hke
      have HZ := hidS (trB_all s hsp.out)
      go_wp2
      go_ret
      exact ⟨_, rfl, .inl ⟨rfl, HZ.out⟩, Below.refl _ _⟩
end Go.Proofs.YtpaieadnicmplaaDoor

/- Plain laws of code points in bytes: where they begin, and that the bytes of a code point stand only where it begins. -/
import Derived.Test.YtpaieadnicmplaaDoorBas
import Derived.Lib.DecodeN
import Derived.Lib.RuneCount
import Derived.Laws.Runes
set_option linter.unusedVariables false
namespace Go.Proofs.YtpaieadnicmplaaDoor
open Go.Lib

/-- The places from a on at which code points begin. -/
def starts (s : ByteArray) (a : Nat) : List Nat := if h : a < s.size then a :: starts s (a + (Utf8.decode s a).2) else []
termination_by s.size - a
decreasing_by
  have := decode_width_pos s a h
  omega

theorem starts_end (s : ByteArray) (a : Nat) (h : s.size ≤ a) : starts s a = [] := by
  rw [starts, dif_neg (by omega)]
theorem starts_cons (s : ByteArray) (a : Nat) (h : a < s.size) : starts s a = a :: starts s (a + (Utf8.decode s a).2) := by
  rw [starts, dif_pos h]

theorem starts_len (s : ByteArray) : ∀ n a, s.size - a ≤ n → (starts s a).length ≤ n
  | n, a, h => by
    by_cases ha : a < s.size
    · have hw := decode_width_pos s a ha
      match n, h with
      | 0, h => omega
      | n + 1, h =>
        rw [starts_cons s a ha, List.length_cons]
        have := starts_len s n (a + (Utf8.decode s a).2) (by omega)
        omega
    · rw [starts_end s a (by omega)]; exact Nat.zero_le _

theorem starts_mem (s : ByteArray) : ∀ n a, s.size - a ≤ n → ∀ x ∈ starts s a, a ≤ x ∧ x < s.size
  | n, a, h, x, hx => by
    by_cases ha : a < s.size
    · have hw := decode_width_pos s a ha
      rw [starts_cons s a ha] at hx
      match n, h with
      | 0, h => omega
      | n + 1, h =>
        rcases List.mem_cons.1 hx with rfl | hx
        · exact ⟨Nat.le_refl _, ha⟩
        · have := starts_mem s n (a + (Utf8.decode s a).2) (by omega) x hx
          omega
    · rw [starts_end s a (by omega)] at hx; cases hx

/-- The first of some places whose code point is so. -/
def fP (s : ByteArray) (p : Nat → Bool) : List Nat → Int
  | [] => -1
  | a :: l => if p (Utf8.decode s a).1 then a else fP s p l

theorem fP_bound (s : ByteArray) (p : Nat → Bool) : ∀ l : List Nat, (∀ x ∈ l, x < s.size) → -1 ≤ fP s p l ∧ fP s p l < s.size ∨ fP s p l = -1
  | [], _ => .inr rfl
  | a :: l, h => by
    unfold fP
    split
    · have := h a (by simp); left; omega
    · exact fP_bound s p l (fun x hx => h x (by simp [hx]))

theorem decode_in (s : ByteArray) (j k : Nat) (h1 : j < k) (h2 : k < j + (Utf8.decode s j).2) : k < s.size ∧ 128 ≤ (s.get! k).toNat ∧ (s.get! k).toNat < 192 := by
  rw [decode_at] at h2
  have b1 : (s.get! (j + 1)).toNat < 256 := (s.get! (j + 1)).toNat_lt
  have b2 : (s.get! (j + 2)).toNat < 256 := (s.get! (j + 2)).toNat_lt
  have b3 : (s.get! (j + 3)).toNat < 256 := (s.get! (j + 3)).toNat_lt
  unfold decodeN at h2
  have hk : k = j + 1 ∨ k = j + 2 ∨ k = j + 3 ∨ j + 4 ≤ k := by omega
  repeat' (split at h2)
  all_goals (simp only at h2)
  all_goals first
    | (exfalso; omega)
    | (rcases hk with rfl | rfl | rfl | hk <;> omega)

theorem decode_end (s : ByteArray) (a : Nat) (h : a < s.size) : a + (Utf8.decode s a).2 ≤ s.size := by
  by_cases h1 : (Utf8.decode s a).2 ≤ 1
  · omega
  · have := (decode_in s a (a + (Utf8.decode s a).2 - 1) (by omega) (by omega)).1
    omega

/-- The places where t stands in s. -/
def OccB (s t : ByteArray) (k : Nat) : Prop := k + t.size ≤ s.size ∧ ∀ j, j < t.size → s.get! (k + j) = t.get! j

theorem fP_hit (s : ByteArray) (p : Nat → Bool) (Q : Nat → Prop) (hA : ∀ j, j < s.size → Q j → p (Utf8.decode s j).1 = true) (hB : ∀ j, j < s.size → p (Utf8.decode s j).1 = true → Q j)
    (hC : ∀ j k, j < k → k < s.size → Q k → j + (Utf8.decode s j).2 ≤ k) : ∀ n a k, k - a ≤ n → a ≤ k → k < s.size → Q k → (∀ j, a ≤ j → j < k → ¬ Q j) → fP s p (starts s a) = k
  | n, a, k, hn, hak, hks, hq, hno => by
    rw [starts_cons s a (by omega)]
    unfold fP
    rcases Nat.eq_or_lt_of_le hak with rfl | hlt
    · rw [if_pos (hA a hks hq)]
    · rw [if_neg (fun h => hno a (Nat.le_refl _) hlt (hB a (by omega) h))]
      have hw := decode_width_pos s a (by omega)
      have hc := hC a k hlt hks hq
      match n, hn with
      | 0, hn => omega
      | n + 1, hn => exact fP_hit s p Q hA hB hC n _ k (by omega) hc hks hq (fun j h1 h2 => hno j (by omega) h2)

theorem fP_miss (s : ByteArray) (p : Nat → Bool) : ∀ n a, s.size - a ≤ n → (∀ j, a ≤ j → j < s.size → p (Utf8.decode s j).1 = false) → fP s p (starts s a) = -1
  | n, a, hn, hno => by
    by_cases ha : a < s.size
    · have hw := decode_width_pos s a ha
      rw [starts_cons s a ha]
      unfold fP
      rw [hno a (Nat.le_refl _) ha]
      match n, hn with
      | 0, hn => omega
      | n + 1, hn => exact fP_miss s p n _ (by omega) (fun j h1 h2 => hno j (by omega) h2)
    · rw [starts_end s a (by omega)]; rfl

theorem valid_iff (r : Int) : Utf8.valid r = true ↔ (0 ≤ r ∧ r < 55296) ∨ (57344 ≤ r ∧ r ≤ 1114111) := by
  unfold Utf8.valid; simp

/-- What is decoded is a code point. -/
theorem decode_valid (s : ByteArray) (j : Nat) : Utf8.valid (Utf8.decode s j).1 = true := by
  rw [decode_at, valid_iff]
  have b0 : (s.get! j).toNat < 256 := (s.get! j).toNat_lt
  have b1 : (s.get! (j + 1)).toNat < 256 := (s.get! (j + 1)).toNat_lt
  have b2 : (s.get! (j + 2)).toNat < 256 := (s.get! (j + 2)).toNat_lt
  have b3 : (s.get! (j + 3)).toNat < 256 := (s.get! (j + 3)).toNat_lt
  unfold decodeN
  repeat' split
  all_goals (simp only; omega)

theorem decode_lt (s : ByteArray) (j : Nat) : (Utf8.decode s j).1 ≤ 1114111 := by
  have := (valid_iff _).1 (decode_valid s j)
  omega

/-- The sign of an ASCII byte stands where the byte does. -/
theorem asc_A (s : ByteArray) (c j : Nat) (hc : c < 128) (h : (s.get! j).toNat = c) : (Utf8.decode s j).1 = c := by
  rw [decode_at]; unfold decodeN; rw [if_pos (by omega)]; exact h
theorem asc_B (s : ByteArray) (c j : Nat) (hc : c < 128) (h : (Utf8.decode s j).1 = c) : (s.get! j).toNat = c := by
  rw [decode_at] at h
  have b0 : (s.get! j).toNat < 256 := (s.get! j).toNat_lt
  unfold decodeN at h
  repeat' (split at h)
  all_goals (simp only at h; omega)

theorem two_of (s : ByteArray) (j : Nat) (r : Int) (h0 : 128 ≤ r) (h1 : r < 2048) : (((Utf8.decode s j).1 : Int) = r) ↔ (j + 1 < s.size ∨ s.size ≤ j) ∧ ((s.get! j).toNat : Int) = 192 + r / 64 ∧ (1 < s.size - j ∧ ((s.get! (j + 1)).toNat : Int) = 128 + r % 64) := by
  rw [decode_at]
  have b0 : (s.get! j).toNat < 256 := (s.get! j).toNat_lt
  have b1 : (s.get! (j + 1)).toNat < 256 := (s.get! (j + 1)).toNat_lt
  have b2 : (s.get! (j + 2)).toNat < 256 := (s.get! (j + 2)).toNat_lt
  have b3 : (s.get! (j + 3)).toNat < 256 := (s.get! (j + 3)).toNat_lt
  unfold decodeN
  repeat' split
  all_goals (simp only; omega)
set_option maxHeartbeats 4000000 in
theorem three_of (s : ByteArray) (j : Nat) (r : Int) (h0 : 2048 ≤ r) (h1 : r < 65536) (hv : r < 55296 ∨ 57344 ≤ r) (hf : r ≠ 65533) : (((Utf8.decode s j).1 : Int) = r) ↔ ((s.get! j).toNat : Int) = 224 + r / 4096 ∧ (1 < s.size - j ∧ ((s.get! (j + 1)).toNat : Int) = 128 + r / 64 % 64) ∧ (2 < s.size - j ∧ ((s.get! (j + 2)).toNat : Int) = 128 + r % 64) := by
  rw [decode_at]
  have b0 : (s.get! j).toNat < 256 := (s.get! j).toNat_lt
  have b1 : (s.get! (j + 1)).toNat < 256 := (s.get! (j + 1)).toNat_lt
  have b2 : (s.get! (j + 2)).toNat < 256 := (s.get! (j + 2)).toNat_lt
  have b3 : (s.get! (j + 3)).toNat < 256 := (s.get! (j + 3)).toNat_lt
  unfold decodeN
  repeat' split
  all_goals (simp only; omega)
set_option maxHeartbeats 4000000 in
theorem four_of (s : ByteArray) (j : Nat) (r : Int) (h0 : 65536 ≤ r) (h1 : r ≤ 1114111) : (((Utf8.decode s j).1 : Int) = r) ↔ ((s.get! j).toNat : Int) = 240 + r / 262144 ∧ (1 < s.size - j ∧ ((s.get! (j + 1)).toNat : Int) = 128 + r / 4096 % 64) ∧ (2 < s.size - j ∧ ((s.get! (j + 2)).toNat : Int) = 128 + r / 64 % 64) ∧ (3 < s.size - j ∧ ((s.get! (j + 3)).toNat : Int) = 128 + r % 64) := by
  rw [decode_at]
  have b0 : (s.get! j).toNat < 256 := (s.get! j).toNat_lt
  have b1 : (s.get! (j + 1)).toNat < 256 := (s.get! (j + 1)).toNat_lt
  have b2 : (s.get! (j + 2)).toNat < 256 := (s.get! (j + 2)).toNat_lt
  have b3 : (s.get! (j + 3)).toNat < 256 := (s.get! (j + 3)).toNat_lt
  unfold decodeN
  repeat' split
  all_goals (simp only; omega)

theorem occ2 (s : ByteArray) (a b : UInt8) (j : Nat) : OccB s ⟨#[a, b]⟩ j ↔ j + 2 ≤ s.size ∧ s.get! j = a ∧ s.get! (j + 1) = b :=
  ⟨fun ⟨h, f⟩ => ⟨h, f 0 (by show 0 < 2; omega), f 1 (by show 1 < 2; omega)⟩, fun ⟨h, e0, e1⟩ => ⟨h, fun k hk => by
    have hk' : k < 2 := hk
    match k, hk' with
    | 0, _ => exact e0
    | 1, _ => exact e1⟩⟩
theorem occ3 (s : ByteArray) (a b c : UInt8) (j : Nat) : OccB s ⟨#[a, b, c]⟩ j ↔ j + 3 ≤ s.size ∧ s.get! j = a ∧ s.get! (j + 1) = b ∧ s.get! (j + 2) = c :=
  ⟨fun ⟨h, f⟩ => ⟨h, f 0 (by show 0 < 3; omega), f 1 (by show 1 < 3; omega), f 2 (by show 2 < 3; omega)⟩, fun ⟨h, e0, e1, e2⟩ => ⟨h, fun k hk => by
    have hk' : k < 3 := hk
    match k, hk' with
    | 0, _ => exact e0
    | 1, _ => exact e1
    | 2, _ => exact e2⟩⟩
theorem occ4 (s : ByteArray) (a b c d : UInt8) (j : Nat) : OccB s ⟨#[a, b, c, d]⟩ j ↔ j + 4 ≤ s.size ∧ s.get! j = a ∧ s.get! (j + 1) = b ∧ s.get! (j + 2) = c ∧ s.get! (j + 3) = d :=
  ⟨fun ⟨h, f⟩ => ⟨h, f 0 (by show 0 < 4; omega), f 1 (by show 1 < 4; omega), f 2 (by show 2 < 4; omega), f 3 (by show 3 < 4; omega)⟩, fun ⟨h, e0, e1, e2, e3⟩ => ⟨h, fun k hk => by
    have hk' : k < 4 := hk
    match k, hk' with
    | 0, _ => exact e0
    | 1, _ => exact e1
    | 2, _ => exact e2
    | 3, _ => exact e3⟩⟩
theorem u8_of (x : UInt8) (n : Nat) (hn : n < 256) : x = UInt8.ofNat n ↔ x.toNat = n := by
  constructor
  · rintro rfl; simp; omega
  · intro h; apply UInt8.toNat_inj.1; simp; omega

/-- The bytes of a code point stand just where it is decoded. -/
theorem occ_iff (s : ByteArray) (r : Int) (hv : Utf8.valid r = true) (h128 : 128 ≤ r) (hf : r ≠ 65533) (j : Nat) : OccB s (Utf8.encode r) j ↔ ((Utf8.decode s j).1 : Int) = r := by
  have hr := (valid_iff r).1 hv
  obtain ⟨c, rfl⟩ := Int.eq_ofNat_of_zero_le (show 0 ≤ r by omega)
  unfold Utf8.encode
  simp only [hv, if_true, Int.toNat_natCast]
  rw [if_neg (by omega)]
  by_cases h2 : c < 2048
  · rw [if_pos (by omega), occ2, two_of s j c h128 (by omega), u8_of _ _ (by omega), u8_of _ _ (by omega)]
    omega
  · rw [if_neg (by omega)]
    by_cases h3 : c < 65536
    · rw [if_pos (by omega), occ3, three_of s j c (by omega) (by omega) (by omega) hf, u8_of _ _ (by omega), u8_of _ _ (by omega), u8_of _ _ (by omega)]
      omega
    · rw [if_neg (by omega), occ4, four_of s j c (by omega) (by omega), u8_of _ _ (by omega), u8_of _ _ (by omega), u8_of _ _ (by omega), u8_of _ _ (by omega)]
      omega

theorem lead_ge (s : ByteArray) (r : Int) (hv : Utf8.valid r = true) (h128 : 128 ≤ r) (hf : r ≠ 65533) (j : Nat) (h : ((Utf8.decode s j).1 : Int) = r) : 192 ≤ (s.get! j).toNat := by
  have hr := (valid_iff r).1 hv
  by_cases h2 : r < 2048
  · rw [two_of s j r h128 h2] at h; omega
  · by_cases h3 : r < 65536
    · rw [three_of s j r (by omega) h3 (by omega) hf] at h; omega
    · rw [four_of s j r (by omega) (by omega)] at h; omega

/-- Is it that code point? -/
def isR (r : Int) (c : Nat) : Bool := decide ((c : Int) = r)
theorem isR_iff (r : Int) (c : Nat) : isR r c = true ↔ (c : Int) = r := by unfold isR; simp

theorem fP_occ_hit (s : ByteArray) (r : Int) (hv : Utf8.valid r = true) (h128 : 128 ≤ r) (hf : r ≠ 65533) (k : Nat) (hk : OccB s (Utf8.encode r) k) (hno : ∀ j, j < k → ¬ OccB s (Utf8.encode r) j) : fP s (isR r) (starts s 0) = k := by
  have hsz := (encode_facts r hv h128).1
  refine fP_hit s (isR r) (OccB s (Utf8.encode r)) (fun j _ h => (isR_iff _ _).2 ((occ_iff s r hv h128 hf j).1 h)) (fun j _ h => (occ_iff s r hv h128 hf j).2 ((isR_iff _ _).1 h)) ?_ k 0 k (by omega) (Nat.zero_le _) (by have := hk.1; omega) hk (fun j _ h => hno j h)
  intro j k hjk hks ho
  have hl := lead_ge s r hv h128 hf k ((occ_iff s r hv h128 hf k).1 ho)
  by_cases hc : j + (Utf8.decode s j).2 ≤ k
  · exact hc
  · have := decode_in s j k hjk (by omega); omega
theorem fP_occ_miss (s : ByteArray) (r : Int) (hv : Utf8.valid r = true) (h128 : 128 ≤ r) (hf : r ≠ 65533) (hno : ∀ j, ¬ OccB s (Utf8.encode r) j) : fP s (isR r) (starts s 0) = -1 := by
  refine fP_miss s (isR r) s.size 0 (by omega) (fun j _ _ => ?_)
  rw [Bool.eq_false_iff]
  intro h
  exact hno j ((occ_iff s r hv h128 hf j).2 ((isR_iff _ _).1 h))
theorem fP_invalid (s : ByteArray) (r : Int) (hv : Utf8.valid r = false) : fP s (isR r) (starts s 0) = -1 := by
  refine fP_miss s (isR r) s.size 0 (by omega) (fun j _ _ => ?_)
  rw [Bool.eq_false_iff]
  intro h
  have := decode_valid s j
  rw [(isR_iff _ _).1 h, hv] at this
  cases this
theorem get_at (s : ByteArray) (j : Nat) (h : j < s.size) : s.data.toList[j]? = some (s.get! j) := by
  rw [byte_at s j h]
  refine congrArg some ?_
  cases s with
  | mk d => exact (getElem!_pos d j h).symm
theorem fP_ascii (s : ByteArray) (r : Int) (h0 : 0 ≤ r) (h1 : r < 128) : fP s (isR r) (starts s 0) = indexByte s.data.toList r.toNat.toUInt8 := by
  have hl : s.data.toList.length = s.size := by simp
  have hrt : r.toNat.toUInt8.toNat = r.toNat := by show r.toNat % 256 = _; omega
  have hQ : ∀ j, (s.get! j).toNat = r.toNat ↔ s.get! j = r.toNat.toUInt8 := fun j => ⟨fun h => UInt8.toNat_inj.1 (by omega), fun h => by rw [h, hrt]⟩
  have hge := indexByte_ge s.data.toList r.toNat.toUInt8
  by_cases hm : indexByte s.data.toList r.toNat.toUInt8 = -1
  · rw [hm]
    refine fP_miss s (isR r) s.size 0 (by omega) (fun j _ hj => ?_)
    rw [Bool.eq_false_iff]
    intro h
    have hb := asc_B s r.toNat j (by omega) (by have := (isR_iff _ _).1 h; omega)
    have := indexByte_none hm j
    rw [get_at s j hj] at this
    exact this (congrArg some ((hQ j).1 hb))
  · obtain ⟨k, hk⟩ := Int.eq_ofNat_of_zero_le (show 0 ≤ indexByte s.data.toList r.toNat.toUInt8 by omega)
    obtain ⟨e1, e2⟩ := indexByte_some hk
    have hks : k < s.size := by have := (List.getElem?_eq_some_iff.1 e1).1; omega
    rw [hk]
    rw [get_at s k hks] at e1
    refine fP_hit s (isR r) (fun j => (s.get! j).toNat = r.toNat) (fun j _ h => (isR_iff _ _).2 (by rw [asc_A s r.toNat j (by omega) h]; omega)) (fun j _ h => asc_B s r.toNat j (by omega) (by have := (isR_iff _ _).1 h; omega)) ?_ k 0 k (by omega) (Nat.zero_le _) hks ((hQ k).2 (Option.some.inj e1)) (fun j _ hj h => ?_)
    · intro j k hjk hks ho
      by_cases hc : j + (Utf8.decode s j).2 ≤ k
      · exact hc
      · have := decode_in s j k hjk (by omega)
        have ho' : (s.get! k).toNat = r.toNat := ho
        omega
    · have := e2 j hj
      rw [get_at s j (by omega)] at this
      exact this (congrArg some ((hQ j).1 h))
end Go.Proofs.YtpaieadnicmplaaDoor

/- The reference's decoder of one code point (SeRune) is the model's own (printed by mkRune.py). -/
import Derived.Test.YtpaieadnicmplaaDoorRows
import Derived.WalkKit
import Derived.ProofKit
import Derived.Below
import Derived.Outline
import Derived.WalkSpells
import Derived.WalkLawsBesides
import Derived.Lib.Hide
import Derived.Lib.Walk
import Derived.Lib.Strings
import Derived.Laws.BitsLemmas
import Derived.Laws.Runes
import Derived.Lib.DecodeN
import Derived.Deep.LoopGhost
set_option linter.unusedVariables false
namespace Go.Proofs.YtpaieadnicmplaaDoor
open Go.RowKit Go.Lib

theorem get_lt (s : ByteArray) (k : Nat) (h : k < s.size) : s.get! k = s[k]'h := by
  cases s with
  | mk d => exact getElem!_pos d k h
theorem ret_rune {p : Nat × Nat} {a b : Int} (h1 : a = p.1) (h2 : b = p.2) : Ending.returned (.tuple #[.int .i32 a, .int .i64 b]) = .returned (.tuple #[.int .i32 p.1, .int .i64 p.2]) := by rw [h1, h2]

set_option maxRecDepth 100000 in
set_option maxHeartbeats 4000000 in
theorem SeRune_small (s : ByteArray) (i : Nat) (w : World) (hs : s.size < 4294967281) (hi : i < s.size) (n x0 x1 x2 x3 : Nat) (hx0 : (s[i]'hi).toNat = x0) (hb : x0 < 192 ∨ 248 ≤ x0) (p : Nat × Nat) (HD : Hid (p = decodeN n x0 x1 x2 x3)) (hb0 : x0 < 256) :
    Calls Tryd.prog 30 #[.string s, .int .i64 i] w fun e w' => e = .returned (.tuple #[.int .i32 p.1, .int .i64 p.2]) ∧ w = w' := by
  have hcl : x0 < 128 ∨ (128 ≤ x0 ∧ x0 < 192) ∨ 248 ≤ x0 := by omega
  clear hb
  rcases hcl with h1 | ⟨h1, h2⟩ | h1
  all_goals
    go_enter Tryd.func30, Tryd.ntmps30
    go_wp2
    go_ret2
    refine ⟨ret_rune ?_ ?_, rfl⟩
    all_goals
      rw [HD.out]
      unfold decodeN
      repeat' split
      all_goals first | omega | (simp only; omega)
set_option maxRecDepth 100000 in
set_option maxHeartbeats 4000000 in
theorem SeRune_short2 (s : ByteArray) (i : Nat) (w : World) (hs : s.size < 4294967281) (hi : i < s.size) (n x0 x1 x2 x3 : Nat) (hn : Hid (n = s.size - i)) (hx0 : (s[i]'hi).toNat = x0) (ha : 192 ≤ x0) (hb : x0 < 224) (hl : s.size < i + 2) (p : Nat × Nat) (HD : Hid (p = decodeN n x0 x1 x2 x3)) :
    Calls Tryd.prog 30 #[.string s, .int .i64 i] w fun e w' => e = .returned (.tuple #[.int .i32 p.1, .int .i64 p.2]) ∧ w = w' := by
  go_enter Tryd.func30, Tryd.ntmps30
  go_wp2
  go_ret2
  have hn' := hn.out
  refine ⟨ret_rune ?_ ?_, rfl⟩
  all_goals
    rw [HD.out]
    unfold decodeN
    repeat' split
    all_goals first | omega | (simp only; omega)
def RR2 (x0 x1 x2 x3 g : Nat) (r k : Value) : Prop := (g = 1 ∧ k = .int .i64 1 ∧ r = .int .i32 ((x0 : Int) - 192)) ∨ (g = 0 ∧ k = .int .i64 2 ∧ r = .int .i32 (((x0 : Int) - 192) * 64 + ((x1 : Int) - 128)) ∧ 128 ≤ x1 ∧ x1 < 192)
set_option maxRecDepth 100000 in
set_option maxHeartbeats 4000000 in
theorem SeRune_long2 (s : ByteArray) (i : Nat) (w : World) (hs : s.size < 4294967281) (hi : i < s.size) (n x0 x1 x2 x3 : Nat) (hn : Hid (n = s.size - i)) (hx0 : (s[i]'hi).toNat = x0) (ha : 192 ≤ x0) (hb : x0 < 224) (hl : i + 2 ≤ s.size) (hx1 : (s[i + 1]'(by omega)).toNat = x1) (hb1 : x1 < 256) (p : Nat × Nat) (HD : Hid (p = decodeN n x0 x1 x2 x3)) :
    Calls Tryd.prog 30 #[.string s, .int .i64 i] w fun e w' => e = .returned (.tuple #[.int .i32 p.1, .int .i64 p.2]) ∧ w = w' := by
  have q128 : decide ((x0 : Int) < 128) = false := decide_eq_false (by omega)
  have q224 : decide ((x0 : Int) < 224) = true := decide_eq_true (by omega)
  go_enter Tryd.func30, Tryd.ntmps30
  go_wp2
  go_loopg [9, 10] 1 (fun g r k wr => RR2 x0 x1 x2 x3 g r k ∧ w = wr)
  case atStart => exact ⟨.inl ⟨rfl, rfl, rfl⟩, rfl⟩
  case round =>
    obtain ⟨hrel, rfl⟩ := hrel
    rcases hrel with ⟨rfl, rfl, rfl⟩ | ⟨rfl, rfl, rfl, hc1, hd1⟩
    · have hcl : x1 < 128 ∨ 192 ≤ x1 ∨ (128 ≤ x1 ∧ x1 < 192) := by omega
      rcases hcl with hq | hq | ⟨hq, hq2⟩
      · go_wp2
        go_ret2
        have hn' := hn.out
        refine ⟨ret_rune ?_ ?_, rfl⟩
        all_goals
          rw [HD.out]
          unfold decodeN
          repeat' split
          all_goals first | omega | (simp only; omega)
      · go_wp2
        go_ret2
        have hn' := hn.out
        refine ⟨ret_rune ?_ ?_, rfl⟩
        all_goals
          rw [HD.out]
          unfold decodeN
          repeat' split
          all_goals first | omega | (simp only; omega)
      · go_wp2
        go_roundg 0
        case rel => exact ⟨.inr (⟨rfl, rfl, by first | rfl | go_num, hq, hq2⟩), rfl⟩
        case measure => omega
    · go_wp2
      all_goals
        go_ret2
        have hn' := hn.out
        refine ⟨ret_rune ?_ ?_, rfl⟩
        all_goals
          rw [HD.out]
          unfold decodeN
          repeat' split
          all_goals first | omega | (simp only; omega)
set_option maxRecDepth 100000 in
set_option maxHeartbeats 4000000 in
theorem SeRune_short3 (s : ByteArray) (i : Nat) (w : World) (hs : s.size < 4294967281) (hi : i < s.size) (n x0 x1 x2 x3 : Nat) (hn : Hid (n = s.size - i)) (hx0 : (s[i]'hi).toNat = x0) (ha : 224 ≤ x0) (hb : x0 < 240) (hl : s.size < i + 3) (p : Nat × Nat) (HD : Hid (p = decodeN n x0 x1 x2 x3)) :
    Calls Tryd.prog 30 #[.string s, .int .i64 i] w fun e w' => e = .returned (.tuple #[.int .i32 p.1, .int .i64 p.2]) ∧ w = w' := by
  go_enter Tryd.func30, Tryd.ntmps30
  go_wp2
  go_ret2
  have hn' := hn.out
  refine ⟨ret_rune ?_ ?_, rfl⟩
  all_goals
    rw [HD.out]
    unfold decodeN
    repeat' split
    all_goals first | omega | (simp only; omega)
def RR3 (x0 x1 x2 x3 g : Nat) (r k : Value) : Prop := (g = 2 ∧ k = .int .i64 1 ∧ r = .int .i32 ((x0 : Int) - 224)) ∨ (g = 1 ∧ k = .int .i64 2 ∧ r = .int .i32 (((x0 : Int) - 224) * 64 + ((x1 : Int) - 128)) ∧ 128 ≤ x1 ∧ x1 < 192) ∨ (g = 0 ∧ k = .int .i64 3 ∧ r = .int .i32 ((((x0 : Int) - 224) * 64 + ((x1 : Int) - 128)) * 64 + ((x2 : Int) - 128)) ∧ 128 ≤ x1 ∧ x1 < 192 ∧ 128 ≤ x2 ∧ x2 < 192)
set_option maxRecDepth 100000 in
set_option maxHeartbeats 4000000 in
theorem SeRune_long3 (s : ByteArray) (i : Nat) (w : World) (hs : s.size < 4294967281) (hi : i < s.size) (n x0 x1 x2 x3 : Nat) (hn : Hid (n = s.size - i)) (hx0 : (s[i]'hi).toNat = x0) (ha : 224 ≤ x0) (hb : x0 < 240) (hl : i + 3 ≤ s.size) (hx1 : (s[i + 1]'(by omega)).toNat = x1) (hb1 : x1 < 256) (hx2 : (s[i + 2]'(by omega)).toNat = x2) (hb2 : x2 < 256) (p : Nat × Nat) (HD : Hid (p = decodeN n x0 x1 x2 x3)) :
    Calls Tryd.prog 30 #[.string s, .int .i64 i] w fun e w' => e = .returned (.tuple #[.int .i32 p.1, .int .i64 p.2]) ∧ w = w' := by
  have q128 : decide ((x0 : Int) < 128) = false := decide_eq_false (by omega)
  have q224 : decide ((x0 : Int) < 224) = false := decide_eq_false (by omega)
  have q240 : decide ((x0 : Int) < 240) = true := decide_eq_true (by omega)
  go_enter Tryd.func30, Tryd.ntmps30
  go_wp2
  go_loopg [9, 10] 2 (fun g r k wr => RR3 x0 x1 x2 x3 g r k ∧ w = wr)
  case atStart => exact ⟨.inl ⟨rfl, rfl, rfl⟩, rfl⟩
  case round =>
    obtain ⟨hrel, rfl⟩ := hrel
    rcases hrel with ⟨rfl, rfl, rfl⟩ | ⟨rfl, rfl, rfl, hc1, hd1⟩ | ⟨rfl, rfl, rfl, hc1, hd1, hc2, hd2⟩
    · have hcl : x1 < 128 ∨ 192 ≤ x1 ∨ (128 ≤ x1 ∧ x1 < 192) := by omega
      rcases hcl with hq | hq | ⟨hq, hq2⟩
      · go_wp2
        go_ret2
        have hn' := hn.out
        refine ⟨ret_rune ?_ ?_, rfl⟩
        all_goals
          rw [HD.out]
          unfold decodeN
          repeat' split
          all_goals first | omega | (simp only; omega)
      · go_wp2
        go_ret2
        have hn' := hn.out
        refine ⟨ret_rune ?_ ?_, rfl⟩
        all_goals
          rw [HD.out]
          unfold decodeN
          repeat' split
          all_goals first | omega | (simp only; omega)
      · go_wp2
        go_roundg 1
        case rel => exact ⟨.inr (.inl ⟨rfl, rfl, by first | rfl | go_num, hq, hq2⟩), rfl⟩
        case measure => omega
    · have hcl : x2 < 128 ∨ 192 ≤ x2 ∨ (128 ≤ x2 ∧ x2 < 192) := by omega
      rcases hcl with hq | hq | ⟨hq, hq2⟩
      · go_wp2
        go_ret2
        have hn' := hn.out
        refine ⟨ret_rune ?_ ?_, rfl⟩
        all_goals
          rw [HD.out]
          unfold decodeN
          repeat' split
          all_goals first | omega | (simp only; omega)
      · go_wp2
        go_ret2
        have hn' := hn.out
        refine ⟨ret_rune ?_ ?_, rfl⟩
        all_goals
          rw [HD.out]
          unfold decodeN
          repeat' split
          all_goals first | omega | (simp only; omega)
      · go_wp2
        go_roundg 0
        case rel => exact ⟨.inr (.inr (⟨rfl, rfl, by first | rfl | go_num, hc1, hd1, hq, hq2⟩)), rfl⟩
        case measure => omega
    · go_wp2
      all_goals
        go_ret2
        have hn' := hn.out
        refine ⟨ret_rune ?_ ?_, rfl⟩
        all_goals
          rw [HD.out]
          unfold decodeN
          repeat' split
          all_goals first | omega | (simp only; omega)
set_option maxRecDepth 100000 in
set_option maxHeartbeats 4000000 in
theorem SeRune_short4 (s : ByteArray) (i : Nat) (w : World) (hs : s.size < 4294967281) (hi : i < s.size) (n x0 x1 x2 x3 : Nat) (hn : Hid (n = s.size - i)) (hx0 : (s[i]'hi).toNat = x0) (ha : 240 ≤ x0) (hb : x0 < 248) (hl : s.size < i + 4) (p : Nat × Nat) (HD : Hid (p = decodeN n x0 x1 x2 x3)) :
    Calls Tryd.prog 30 #[.string s, .int .i64 i] w fun e w' => e = .returned (.tuple #[.int .i32 p.1, .int .i64 p.2]) ∧ w = w' := by
  go_enter Tryd.func30, Tryd.ntmps30
  go_wp2
  go_ret2
  have hn' := hn.out
  refine ⟨ret_rune ?_ ?_, rfl⟩
  all_goals
    rw [HD.out]
    unfold decodeN
    repeat' split
    all_goals first | omega | (simp only; omega)
def RR4 (x0 x1 x2 x3 g : Nat) (r k : Value) : Prop := (g = 3 ∧ k = .int .i64 1 ∧ r = .int .i32 ((x0 : Int) - 240)) ∨ (g = 2 ∧ k = .int .i64 2 ∧ r = .int .i32 (((x0 : Int) - 240) * 64 + ((x1 : Int) - 128)) ∧ 128 ≤ x1 ∧ x1 < 192) ∨ (g = 1 ∧ k = .int .i64 3 ∧ r = .int .i32 ((((x0 : Int) - 240) * 64 + ((x1 : Int) - 128)) * 64 + ((x2 : Int) - 128)) ∧ 128 ≤ x1 ∧ x1 < 192 ∧ 128 ≤ x2 ∧ x2 < 192) ∨ (g = 0 ∧ k = .int .i64 4 ∧ r = .int .i32 (((((x0 : Int) - 240) * 64 + ((x1 : Int) - 128)) * 64 + ((x2 : Int) - 128)) * 64 + ((x3 : Int) - 128)) ∧ 128 ≤ x1 ∧ x1 < 192 ∧ 128 ≤ x2 ∧ x2 < 192 ∧ 128 ≤ x3 ∧ x3 < 192)
set_option maxRecDepth 100000 in
set_option maxHeartbeats 4000000 in
theorem SeRune_long4 (s : ByteArray) (i : Nat) (w : World) (hs : s.size < 4294967281) (hi : i < s.size) (n x0 x1 x2 x3 : Nat) (hn : Hid (n = s.size - i)) (hx0 : (s[i]'hi).toNat = x0) (ha : 240 ≤ x0) (hb : x0 < 248) (hl : i + 4 ≤ s.size) (hx1 : (s[i + 1]'(by omega)).toNat = x1) (hb1 : x1 < 256) (hx2 : (s[i + 2]'(by omega)).toNat = x2) (hb2 : x2 < 256) (hx3 : (s[i + 3]'(by omega)).toNat = x3) (hb3 : x3 < 256) (p : Nat × Nat) (HD : Hid (p = decodeN n x0 x1 x2 x3)) :
    Calls Tryd.prog 30 #[.string s, .int .i64 i] w fun e w' => e = .returned (.tuple #[.int .i32 p.1, .int .i64 p.2]) ∧ w = w' := by
  have q128 : decide ((x0 : Int) < 128) = false := decide_eq_false (by omega)
  have q224 : decide ((x0 : Int) < 224) = false := decide_eq_false (by omega)
  have q240 : decide ((x0 : Int) < 240) = false := decide_eq_false (by omega)
  have q248 : decide ((x0 : Int) < 248) = true := decide_eq_true (by omega)
  go_enter Tryd.func30, Tryd.ntmps30
  go_wp2
  go_loopg [9, 10] 3 (fun g r k wr => RR4 x0 x1 x2 x3 g r k ∧ w = wr)
  case atStart => exact ⟨.inl ⟨rfl, rfl, rfl⟩, rfl⟩
  case round =>
    obtain ⟨hrel, rfl⟩ := hrel
    rcases hrel with ⟨rfl, rfl, rfl⟩ | ⟨rfl, rfl, rfl, hc1, hd1⟩ | ⟨rfl, rfl, rfl, hc1, hd1, hc2, hd2⟩ | ⟨rfl, rfl, rfl, hc1, hd1, hc2, hd2, hc3, hd3⟩
    · have hcl : x1 < 128 ∨ 192 ≤ x1 ∨ (128 ≤ x1 ∧ x1 < 192) := by omega
      rcases hcl with hq | hq | ⟨hq, hq2⟩
      · go_wp2
        go_ret2
        have hn' := hn.out
        refine ⟨ret_rune ?_ ?_, rfl⟩
        all_goals
          rw [HD.out]
          unfold decodeN
          repeat' split
          all_goals first | omega | (simp only; omega)
      · go_wp2
        go_ret2
        have hn' := hn.out
        refine ⟨ret_rune ?_ ?_, rfl⟩
        all_goals
          rw [HD.out]
          unfold decodeN
          repeat' split
          all_goals first | omega | (simp only; omega)
      · go_wp2
        go_roundg 2
        case rel => exact ⟨.inr (.inl ⟨rfl, rfl, by first | rfl | go_num, hq, hq2⟩), rfl⟩
        case measure => omega
    · have hcl : x2 < 128 ∨ 192 ≤ x2 ∨ (128 ≤ x2 ∧ x2 < 192) := by omega
      rcases hcl with hq | hq | ⟨hq, hq2⟩
      · go_wp2
        go_ret2
        have hn' := hn.out
        refine ⟨ret_rune ?_ ?_, rfl⟩
        all_goals
          rw [HD.out]
          unfold decodeN
          repeat' split
          all_goals first | omega | (simp only; omega)
      · go_wp2
        go_ret2
        have hn' := hn.out
        refine ⟨ret_rune ?_ ?_, rfl⟩
        all_goals
          rw [HD.out]
          unfold decodeN
          repeat' split
          all_goals first | omega | (simp only; omega)
      · go_wp2
        go_roundg 1
        case rel => exact ⟨.inr (.inr (.inl ⟨rfl, rfl, by first | rfl | go_num, hc1, hd1, hq, hq2⟩)), rfl⟩
        case measure => omega
    · have hcl : x3 < 128 ∨ 192 ≤ x3 ∨ (128 ≤ x3 ∧ x3 < 192) := by omega
      rcases hcl with hq | hq | ⟨hq, hq2⟩
      · go_wp2
        go_ret2
        have hn' := hn.out
        refine ⟨ret_rune ?_ ?_, rfl⟩
        all_goals
          rw [HD.out]
          unfold decodeN
          repeat' split
          all_goals first | omega | (simp only; omega)
      · go_wp2
        go_ret2
        have hn' := hn.out
        refine ⟨ret_rune ?_ ?_, rfl⟩
        all_goals
          rw [HD.out]
          unfold decodeN
          repeat' split
          all_goals first | omega | (simp only; omega)
      · go_wp2
        go_roundg 0
        case rel => exact ⟨.inr (.inr (.inr (⟨rfl, rfl, by first | rfl | go_num, hc1, hd1, hc2, hd2, hq, hq2⟩))), rfl⟩
        case measure => omega
    · go_wp2
      all_goals
        go_ret2
        have hn' := hn.out
        refine ⟨ret_rune ?_ ?_, rfl⟩
        all_goals
          rw [HD.out]
          unfold decodeN
          repeat' split
          all_goals first | omega | (simp only; omega)

/-- The reference's decoder, at every place of every text. -/
theorem SeRune (s : ByteArray) (i : Nat) (w : World) (hs : s.size < 4294967281) (hi : i < s.size) :
    Calls Tryd.prog 30 #[.string s, .int .i64 i] w fun e w' => e = .returned (.tuple #[.int .i32 (Utf8.decode s i).1, .int .i64 (Utf8.decode s i).2]) ∧ w = w' := by
  have HD : Hid (Utf8.decode s i = decodeN (s.size - i) (s.get! i).toNat (s.get! (i + 1)).toNat (s.get! (i + 2)).toNat (s.get! (i + 3)).toNat) := decode_at s i
  have e0 := congrArg UInt8.toNat (get_lt s i hi).symm
  have b0 : (s.get! i).toNat < 256 := (s.get! i).toNat_lt
  have b1 : (s.get! (i + 1)).toNat < 256 := (s.get! (i + 1)).toNat_lt
  have b2 : (s.get! (i + 2)).toNat < 256 := (s.get! (i + 2)).toNat_lt
  have b3 : (s.get! (i + 3)).toNat < 256 := (s.get! (i + 3)).toNat_lt
  by_cases h1 : (s.get! i).toNat < 192
  · exact SeRune_small s i w hs hi _ _ _ _ _ e0 (.inl h1) _ HD b0
  by_cases h2 : (s.get! i).toNat < 224
  · by_cases hl : s.size < i + 2
    · exact SeRune_short2 s i w hs hi _ _ _ _ _ rfl e0 (by omega) h2 hl _ HD
    · exact SeRune_long2 s i w hs hi _ _ _ _ _ rfl e0 (by omega) h2 (by omega) (congrArg UInt8.toNat (get_lt s (i + 1) (by omega)).symm) b1 _ HD
  by_cases h3 : (s.get! i).toNat < 240
  · by_cases hl : s.size < i + 3
    · exact SeRune_short3 s i w hs hi _ _ _ _ _ rfl e0 (by omega) h3 hl _ HD
    · exact SeRune_long3 s i w hs hi _ _ _ _ _ rfl e0 (by omega) h3 (by omega) (congrArg UInt8.toNat (get_lt s (i + 1) (by omega)).symm) b1 (congrArg UInt8.toNat (get_lt s (i + 2) (by omega)).symm) b2 _ HD
  by_cases h4 : (s.get! i).toNat < 248
  · by_cases hl : s.size < i + 4
    · exact SeRune_short4 s i w hs hi _ _ _ _ _ rfl e0 (by omega) h4 hl _ HD
    · exact SeRune_long4 s i w hs hi _ _ _ _ _ rfl e0 (by omega) h4 (by omega) (congrArg UInt8.toNat (get_lt s (i + 1) (by omega)).symm) b1 (congrArg UInt8.toNat (get_lt s (i + 2) (by omega)).symm) b2 (congrArg UInt8.toNat (get_lt s (i + 3) (by omega)).symm) b3 _ HD
  · exact SeRune_small s i w hs hi _ _ _ _ _ e0 (.inr (by omega)) _ HD b0
end Go.Proofs.YtpaieadnicmplaaDoor

/- The contract of stringslite.Index (after the shelf's walk). -/
import Derived.Test.YtblaldahhhokmaaDoorRk
import Derived.Lib.IndexEntry
namespace Go.Proofs.YtblaldahhhokmaaDoor
open Go.RowKit Go.Lib

set_option maxHeartbeats 400000 in
theorem sIndexByte (s : ByteArray) (c : Int) (w : World) (h0 : 0 ≤ c) (h1 : c ≤ 255) (hs : s.size < 4294967281) :
    Calls Tryd.prog 91 #[.string s, .int .u8 c] w fun e w' => e = .returned (.int .i64 (Lib.indexByte s.data.toList c.toNat.toUInt8)) ∧ w = w' := by
  go_enter Tryd.func91, Tryd.ntmps91
  go_wp2_with fail
  refine (IndexByteString s c _ h0 h1 hs).mono ?_
  rintro e w' ⟨rfl, rfl⟩
  go_wp2
  go_ret
  exact ⟨rfl, rfl⟩

theorem byte_le (x : UInt8) : ((x.toNat : Nat) : Int) ≤ 255 := by have := UInt8.toNat_lt x; omega

set_option maxHeartbeats 8000000 in
set_option maxRecDepth 100000 in
theorem Index_long (s sub : ByteArray) (w : World) (hs : s.size < 4294967281) (hn2 : 2 ≤ sub.size) (hls : sub.size < s.size) :
    Calls Tryd.prog 76 #[.string s, .string sub] w fun e w' => e = .returned (.int .i64 (Lib.index s.data.toList sub.data.toList)) ∧ w = w' := by
  have z0 : (((sub.size : Nat) : Int) == 0) = false := by rw [beq_eq_false_iff_ne]; omega
  have z1 : (((sub.size : Nat) : Int) == 1) = false := by rw [beq_eq_false_iff_ne]; omega
  have z2 : (sub.toList == s.toList) = false := by
    rw [beq_eq_false_iff_ne]; intro e
    rw [Lib.toList_data, Lib.toList_data] at e
    have := congrArg List.length e
    simp at this; omega
  have z3 : decide (((sub.size : Nat) : Int) ≤ 0) = false := decide_eq_false (by omega)
  have hne : ¬ sub = ByteArray.empty := fun e => by rw [e] at hn2; simp at hn2
  have n1 : (1 : Int) < sub.size := by omega
  have n2 : (0 : Int) < sub.size := by omega
  go_enter Tryd.func76, Tryd.ntmps76
  go_wp2
  go_loop [8, 10] (fun i f => ∃ k fl : Nat, i = .int .i64 k ∧ f = .int .i64 fl ∧ k ≤ s.size - sub.size + 1 ∧ fl ≤ k ∧ Lib.NoOcc s.data.toList sub.data.toList k) (fun i _ => s.size + 1 - (RowKit.intOf i).toNat)
  case atStart => exact ⟨0, 0, rfl, rfl, Nat.zero_le _, Nat.le_refl _, Lib.NoOcc.zero _ _⟩
  case round =>
    obtain ⟨k, fl, rfl, rfl, hk, hfl, hno⟩ := hrel
    by_cases hkt : (k : Int) < ↑s.size - ↑sub.size + 1
    · have a1 : (0 : Int) ≤ ↑k + 1 := by omega
      have a2 : (↑k + 1 : Int) ≤ ↑s.size - ↑sub.size + 1 := by omega
      have a3 : (↑s.size - ↑sub.size + 1 : Int) ≤ ↑s.size := by omega
      have b1 : (0 : Int) ≤ ↑k := by omega
      have b2 : (↑k : Int) ≤ ↑k + ↑sub.size := by omega
      have b3 : (↑k + ↑sub.size : Int) ≤ ↑s.size := by omega
      go_wp2_with (first
        | (go_at_call 91; refine (sIndexByte _ _ _ (by omega) (byte_le _) (by rw [ByteArray.size_extract]; omega)).mono ?_; rintro e w' ⟨rfl, rfl⟩
           rcases Lib.indexByte_piece s (k + 1) (s.size - sub.size + 1) (↑sub[0].toNat : Int).toNat.toUInt8 with hib | ⟨o, hib, hol⟩ <;>
             first
               | (have hno' : Lib.NoOccB s sub (k + (o + 1)) := Lib.skip_some s sub k o hn2 (by omega) hno (by assumption) hib
                  rw [hib])
               | rw [hib])
        | (go_at_call 92; refine (IndexRabinKarp _ _ (by omega) (by rw [ByteArray.size_extract]; omega) (by rw [ByteArray.size_extract]; omega) _).mono ?_; rintro e w' ⟨rfl, rfl⟩
           generalize hr : Lib.index (ByteArray.extract _ _ _).data.toList _ = r
           have hr1 : -1 ≤ r := hr ▸ Lib.index_ge _ _
           have hr2 : r ≤ ↑s.size := hr ▸ Lib.index_tail_le _ _ _))
      all_goals first
        | (go_ret; refine ⟨?_, rfl⟩; rw [show Lib.index s.data.toList sub.data.toList = -1 from Lib.skip_none s sub k hn2 (by omega) (by omega) hno (by assumption) hib]; first | rfl | (push_cast; rfl) | (refine congrArg Ending.returned (congrArg (Value.int IntKind.i64) ?_); first | rfl | (push_cast; omega) | omega | simp))
        | (go_ret; refine ⟨?_, rfl⟩; rw [show Lib.index s.data.toList sub.data.toList = ((k + (o + 1) : Nat) : Int) from Lib.hit s sub (k + (o + 1)) hno' (by omega) (by assumption)]; first | rfl | (push_cast; rfl) | (refine congrArg Ending.returned (congrArg (Value.int IntKind.i64) ?_); first | rfl | (push_cast; omega) | omega | simp))
        | (have hn1 : Lib.NoOccB s sub (k + (o + 1) + 1) := by first | exact Lib.miss_piece s sub (k + (o + 1)) hno' (by omega) (by assumption) | exact Lib.miss_second s sub (k + (o + 1)) hno' hn2 (by omega) (by assumption)
           have h0r : 0 ≤ r := by assumption
           go_ret; refine ⟨?_, rfl⟩; rw [show Lib.index s.data.toList sub.data.toList = r + ((k + (o + 1) + 1 : Nat) : Int) from Lib.fb_pos s sub (k + (o + 1) + 1) hn1 (by omega) hr h0r]; first | rfl | (push_cast; rfl) | (refine congrArg Ending.returned (congrArg (Value.int IntKind.i64) ?_); first | rfl | (push_cast; omega) | omega | simp))
        | (have hn1 : Lib.NoOccB s sub (k + (o + 1) + 1) := by first | exact Lib.miss_piece s sub (k + (o + 1)) hno' (by omega) (by assumption) | exact Lib.miss_second s sub (k + (o + 1)) hno' hn2 (by omega) (by assumption)
           have h0r : r < 0 := by assumption
           go_ret; refine ⟨?_, rfl⟩; rw [show Lib.index s.data.toList sub.data.toList = -1 from Lib.fb_neg s sub (k + (o + 1) + 1) hn1 (by omega) hr h0r hr1]; first | rfl | (push_cast; rfl) | (refine congrArg Ending.returned (congrArg (Value.int IntKind.i64) ?_); first | rfl | (push_cast; omega) | omega | simp))
        | (refine ⟨⟨k + (o + 1) + 1, fl + 1, by push_cast; rfl, by push_cast; rfl, by omega, by omega, ?_⟩, ?_⟩
           · first | exact Lib.miss_piece s sub (k + (o + 1)) hno' (by omega) (by assumption) | exact Lib.miss_second s sub (k + (o + 1)) hno' hn2 (by omega) (by assumption)
           · simp [RowKit.intOf]; omega)
        | (go_ret; refine ⟨?_, rfl⟩; rw [show Lib.index s.data.toList sub.data.toList = ((k : Nat) : Int) from Lib.hit s sub (k) hno (by omega) (by assumption)]; first | rfl | (push_cast; rfl) | (refine congrArg Ending.returned (congrArg (Value.int IntKind.i64) ?_); first | rfl | (push_cast; omega) | omega | simp))
        | (have hn1 : Lib.NoOccB s sub (k + 1) := by first | exact Lib.miss_piece s sub (k) hno (by omega) (by assumption) | exact Lib.miss_second s sub (k) hno hn2 (by omega) (by assumption)
           have h0r : 0 ≤ r := by assumption
           go_ret; refine ⟨?_, rfl⟩; rw [show Lib.index s.data.toList sub.data.toList = r + ((k + 1 : Nat) : Int) from Lib.fb_pos s sub (k + 1) hn1 (by omega) hr h0r]; first | rfl | (push_cast; rfl) | (refine congrArg Ending.returned (congrArg (Value.int IntKind.i64) ?_); first | rfl | (push_cast; omega) | omega | simp))
        | (have hn1 : Lib.NoOccB s sub (k + 1) := by first | exact Lib.miss_piece s sub (k) hno (by omega) (by assumption) | exact Lib.miss_second s sub (k) hno hn2 (by omega) (by assumption)
           have h0r : r < 0 := by assumption
           go_ret; refine ⟨?_, rfl⟩; rw [show Lib.index s.data.toList sub.data.toList = -1 from Lib.fb_neg s sub (k + 1) hn1 (by omega) hr h0r hr1]; first | rfl | (push_cast; rfl) | (refine congrArg Ending.returned (congrArg (Value.int IntKind.i64) ?_); first | rfl | (push_cast; omega) | omega | simp))
        | (refine ⟨⟨k + 1, fl + 1, by push_cast; rfl, by push_cast; rfl, by omega, by omega, ?_⟩, ?_⟩
           · first | exact Lib.miss_piece s sub (k) hno (by omega) (by assumption) | exact Lib.miss_second s sub (k) hno hn2 (by omega) (by assumption)
           · simp [RowKit.intOf]; omega)
    · go_wp2
      go_ret
      refine ⟨?_, rfl⟩
      rw [show Lib.index s.data.toList sub.data.toList = -1 from Lib.past s sub k hno (by omega) (by omega)]
      first | rfl | (push_cast; rfl) | (refine congrArg Ending.returned (congrArg (Value.int IntKind.i64) ?_); first | rfl | (push_cast; omega) | omega | simp)
end Go.Proofs.YtblaldahhhokmaaDoor

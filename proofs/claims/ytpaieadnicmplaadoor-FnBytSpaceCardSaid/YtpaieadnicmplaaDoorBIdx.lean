/- gobytes.Index over slices (the shelf's walk of bytes.Index turned to this program's copy by mkBIdx.py). -/
import Derived.Test.YtpaieadnicmplaaDoorIdxL
import Derived.Test.YtpaieadnicmplaaDoorIbB
import Derived.Test.YtpaieadnicmplaaDoorRkB
import Derived.Lib.IndexBytes
import Derived.Shelf.Bytes.SlSearch0
import Derived.BigCall
import Derived.BigGuard
namespace Go.Proofs.YtpaieadnicmplaaDoor
open Go.RowKit Go.Lib

theorem gbIndexByte (b o cap : Nat) (s : ByteArray) (c : Int) (w : World) (h0 : 0 ≤ c) (h1 : c ≤ 255) (hs : s.size < 4294967281) (hB : Lib.Bytes w b o s) :
    Calls Tryd.prog 36 #[.slice (some ⟨b, o, none⟩) s.size cap, .int .u8 c] w fun e w' => e = .returned (.int .i64 (Lib.indexByte s.data.toList c.toNat.toUInt8)) ∧ w = w' := by
  have HB := Lib.hid hB
  clear hB
  go_enter Tryd.func36, Tryd.ntmps36
  go_wp2_with fail
  refine (IndexByteB s c b o cap _ h0 h1 hs HB).mono ?_
  rintro e w' ⟨rfl, rfl⟩
  go_wp2
  go_ret
  exact ⟨rfl, rfl⟩

theorem gbEqual_strs (v1 v2 : Value) (t1 t2 : ByteArray) (w : World) (h1 : (convert 23 9 v1).run Tryd.prog w = .ok (.string t1) w) (h2 : (convert 23 9 v2).run Tryd.prog w = .ok (.string t2) w) :
    Calls Tryd.prog 63 #[v1, v2] w fun e w' => e = .returned (.bool (t1.toList == t2.toList)) ∧ w = w' := by
  go_enter Tryd.func63, Tryd.ntmps63
  go_wp2
  go_ret
  exact ⟨rfl, rfl⟩

set_option maxHeartbeats 8000000 in
set_option maxRecDepth 100000 in
theorem gbIndex_long (b1 o1 c1 b2 o2 c2 : Nat) (s sub : ByteArray) (w : World) (hs : s.size < 4294967281)
    (hc1 : Lib.Bytes w b1 o1 s) (hc2 : Lib.Bytes w b2 o2 sub) (hcap : s.size ≤ c1) (hn2 : 2 ≤ sub.size) (hls : sub.size < s.size) :
    Calls Tryd.prog 56 #[.slice (some ⟨b1, o1, none⟩) s.size c1, .slice (some ⟨b2, o2, none⟩) sub.size c2] w fun e w' => e = .returned (.int .i64 (Lib.index s.data.toList sub.data.toList)) ∧ ∃ q, w' = w.drewN q := by
  have k0 : w.cell? ⟨b2, o2, none⟩ = some (.int .u8 (sub[0].toNat : Int)) := by simpa using hc2 0 (by omega)
  have k1 := hc2 1 (by omega)
  have C1 : Aside (Lib.Bytes w b1 o1 s) := hc1
  have C2 : Aside (Lib.Bytes w b2 o2 sub) := hc2
  have f0 : ((sub.size : Int) == 0) = false := beq_eq_false_iff_ne.2 (by omega)
  have f1 : ((sub.size : Int) == 1) = false := beq_eq_false_iff_ne.2 (by omega)
  have f2 : ((sub.size : Int) == (s.size : Int)) = false := beq_eq_false_iff_ne.2 (by omega)
  have f3 : decide (s.size < sub.size) = false := decide_eq_false (by omega)
  have f4 : decide ((sub.size : Int) ≤ 0) = false := decide_eq_false (by omega)
  have hne : ¬ sub = ByteArray.empty := fun e => by rw [e] at hn2; simp at hn2
  have hvs : ∀ n, (convert 23 9 (.slice (some ⟨b2, o2, none⟩) sub.size c2)).run Tryd.prog (w.drewN n) = .ok (.string sub) (w.drewN n) := fun n =>
    Lib.run_convert_whole (P := Tryd.prog) (w.drewN n) _ _ _ Tryd.underlying23 Tryd.underlying5 Tryd.underlying9 b2 o2 sub (Lib.Bytes.drewN hc2 n) c2
  have hvw : Aside (∀ n j cap, j + sub.size ≤ s.size → (convert 23 9 (.slice (some ⟨b1, o1 + j, none⟩) sub.size cap)).run Tryd.prog (w.drewN n) = .ok (.string (s.extract j (j + sub.size))) (w.drewN n)) := fun n j cap hj =>
    Lib.run_convert_window (P := Tryd.prog) _ _ _ _ Tryd.underlying23 Tryd.underlying5 Tryd.underlying9 b1 o1 s (Lib.Bytes.drewN hc1 n) j sub.size cap hj
  clear hc1 hc2
  go_enter Tryd.func56, Tryd.ntmps56
  go_wp2
  go_loop [15, 16] (fun i f => ∃ k fl : Nat, i = .int .i64 k ∧ f = .int .i64 fl ∧ k ≤ s.size - sub.size + 1 ∧ fl ≤ k ∧ Lib.NoOcc s.data.toList sub.data.toList k) (fun i _ => s.size + 1 - (RowKit.intOf i).toNat)
  case atStart => exact ⟨0, 0, rfl, rfl, Nat.zero_le _, Nat.le_refl _, Lib.NoOcc.zero _ _⟩
  case round =>
    obtain ⟨k, fl, rfl, rfl, hk, hfl, hno⟩ := hrel
    by_cases hkt : (k : Int) < ↑s.size - ↑sub.size + 1
    · have ck := C1.out k (by omega)
      have hsz : (s.extract (k + 1) (s.size - sub.size + 1)).size = s.size - sub.size - k := by rw [ByteArray.size_extract]; omega
      have hIB := gbIndexByte b1 (o1 + (k + 1)) (c1 - (k + 1)) (s.extract (k + 1) (s.size - sub.size + 1)) (sub[0].toNat : Int) w (by omega) (byte_le _) (by rw [hsz]; omega) (C1.out.window (k + 1) (s.size - sub.size + 1) (by omega) (by omega))
      rw [hsz] at hIB
      have cs1 := C1.out (k + 1) (by omega)
      have hv1 : ∀ cap, (convert 23 9 (.slice (some ⟨b1, o1 + (k), none⟩) sub.size cap)).run Tryd.prog w = .ok (.string (s.extract (k) (k + sub.size))) w := fun cap => hvw.out 0 (k) cap (by omega)
      have hz1 : (s.extract (k + 1) s.size).size = s.size - (k + 1) := by rw [ByteArray.size_extract]; omega
      go_wp2_with (first
        | (go_at_call 36; refine hIB.mono ?_; rintro e w' ⟨rfl, rfl⟩
           rcases Lib.indexByte_piece s (k + 1) (s.size - sub.size + 1) (↑sub[0].toNat : Int).toNat.toUInt8 with hib | ⟨o, hib, hol⟩ <;>
             first
               | (have hno' : Lib.NoOccB s sub (k + (o + 1)) := Lib.skip_some s sub k o hn2 (by omega) hno (by assumption) hib
                  rw [hib]
                  have cs2 := C1.out (k + (o + 1) + 1) (by omega)
                  have hv2 : ∀ cap, (convert 23 9 (.slice (some ⟨b1, o1 + (k + (o + 1)), none⟩) sub.size cap)).run Tryd.prog w = .ok (.string (s.extract (k + (o + 1)) (k + (o + 1) + sub.size))) w := fun cap => hvw.out 0 (k + (o + 1)) cap (by omega)
                  have hz2 : (s.extract (k + (o + 1) + 1) s.size).size = s.size - (k + (o + 1) + 1) := by rw [ByteArray.size_extract]; omega)
               | rw [hib])
        | (go_at_call 63; refine (gbEqual_strs _ _ _ _ _ (hv2 _) (hvs 0)).mono ?_; rintro e w' ⟨rfl, rfl⟩)
        | (go_at_call 63; refine (gbEqual_strs _ _ _ _ _ (hv1 _) (hvs 0)).mono ?_; rintro e w' ⟨rfl, rfl⟩)
        | (go_at_call 64
           have hR := IndexRabinKarpB b1 (o1 + (k + (o + 1) + 1)) (c1 - (k + (o + 1) + 1)) b2 o2 c2 (s.extract (k + (o + 1) + 1) s.size) sub (by omega) (by rw [hz2]; omega) (by rw [hz2]; omega) w (C1.out.window (k + (o + 1) + 1) s.size (by omega) (Nat.le_refl _)) C2.out (by rw [hz2]; omega)
           rw [hz2] at hR
           refine hR.mono ?_; rintro e w' ⟨rfl, q, rfl⟩
           generalize hr : Lib.index (ByteArray.extract _ _ _).data.toList _ = r
           have hr1 : -1 ≤ r := hr ▸ Lib.index_ge _ _
           have hr2 : r ≤ ↑s.size := hr ▸ Lib.index_tail_le _ _ _)
        | (go_at_call 64
           have hR := IndexRabinKarpB b1 (o1 + (k + 1)) (c1 - (k + 1)) b2 o2 c2 (s.extract (k + 1) s.size) sub (by omega) (by rw [hz1]; omega) (by rw [hz1]; omega) w (C1.out.window (k + 1) s.size (by omega) (Nat.le_refl _)) C2.out (by rw [hz1]; omega)
           rw [hz1] at hR
           refine hR.mono ?_; rintro e w' ⟨rfl, q, rfl⟩
           generalize hr : Lib.index (ByteArray.extract _ _ _).data.toList _ = r
           have hr1 : -1 ≤ r := hr ▸ Lib.index_ge _ _
           have hr2 : r ≤ ↑s.size := hr ▸ Lib.index_tail_le _ _ _))
      all_goals first
        | (go_ret; refine ⟨?_, by first | exact ⟨0, rfl⟩ | exact ⟨_, rfl⟩⟩; rw [show Lib.index s.data.toList sub.data.toList = -1 from Lib.skip_none s sub k hn2 (by omega) (by omega) hno (by assumption) hib]; first | rfl | (push_cast; rfl) | (refine congrArg Ending.returned (congrArg (Value.int IntKind.i64) ?_); first | rfl | (push_cast; omega) | omega | simp))
        | (go_ret; refine ⟨?_, by first | exact ⟨0, rfl⟩ | exact ⟨_, rfl⟩⟩; rw [show Lib.index s.data.toList sub.data.toList = ((k + (o + 1) : Nat) : Int) from Lib.hit s sub (k + (o + 1)) hno' (by omega) (by assumption)]; first | rfl | (push_cast; rfl) | (refine congrArg Ending.returned (congrArg (Value.int IntKind.i64) ?_); first | rfl | (push_cast; omega) | omega | simp))
        | (have hn1 : Lib.NoOccB s sub (k + (o + 1) + 1) := by first | exact Lib.miss_piece s sub (k + (o + 1)) hno' (by omega) (by assumption) | exact Lib.miss_second s sub (k + (o + 1)) hno' hn2 (by omega) (by assumption)
           have h0r : 0 ≤ r := by assumption
           go_ret; refine ⟨?_, by first | exact ⟨0, rfl⟩ | exact ⟨_, rfl⟩⟩; rw [show Lib.index s.data.toList sub.data.toList = r + ((k + (o + 1) + 1 : Nat) : Int) from Lib.fb_pos s sub (k + (o + 1) + 1) hn1 (by omega) hr h0r]; first | rfl | (push_cast; rfl) | (refine congrArg Ending.returned (congrArg (Value.int IntKind.i64) ?_); first | rfl | (push_cast; omega) | omega | simp))
        | (have hn1 : Lib.NoOccB s sub (k + (o + 1) + 1) := by first | exact Lib.miss_piece s sub (k + (o + 1)) hno' (by omega) (by assumption) | exact Lib.miss_second s sub (k + (o + 1)) hno' hn2 (by omega) (by assumption)
           have h0r : r < 0 := by assumption
           go_ret; refine ⟨?_, by first | exact ⟨0, rfl⟩ | exact ⟨_, rfl⟩⟩; rw [show Lib.index s.data.toList sub.data.toList = -1 from Lib.fb_neg s sub (k + (o + 1) + 1) hn1 (by omega) hr h0r hr1]; first | rfl | (push_cast; rfl) | (refine congrArg Ending.returned (congrArg (Value.int IntKind.i64) ?_); first | rfl | (push_cast; omega) | omega | simp))
        | (refine ⟨⟨k + (o + 1) + 1, fl + 1, by push_cast; rfl, by push_cast; rfl, by omega, by omega, ?_⟩, ?_⟩
           · first | exact Lib.miss_piece s sub (k + (o + 1)) hno' (by omega) (by assumption) | exact Lib.miss_second s sub (k + (o + 1)) hno' hn2 (by omega) (by assumption)
           · simp [RowKit.intOf] <;>
             omega)
        | (go_ret; refine ⟨?_, by first | exact ⟨0, rfl⟩ | exact ⟨_, rfl⟩⟩; rw [show Lib.index s.data.toList sub.data.toList = ((k : Nat) : Int) from Lib.hit s sub (k) hno (by omega) (by assumption)]; first | rfl | (push_cast; rfl) | (refine congrArg Ending.returned (congrArg (Value.int IntKind.i64) ?_); first | rfl | (push_cast; omega) | omega | simp))
        | (have hn1 : Lib.NoOccB s sub (k + 1) := by first | exact Lib.miss_piece s sub (k) hno (by omega) (by assumption) | exact Lib.miss_second s sub (k) hno hn2 (by omega) (by assumption)
           have h0r : 0 ≤ r := by assumption
           go_ret; refine ⟨?_, by first | exact ⟨0, rfl⟩ | exact ⟨_, rfl⟩⟩; rw [show Lib.index s.data.toList sub.data.toList = r + ((k + 1 : Nat) : Int) from Lib.fb_pos s sub (k + 1) hn1 (by omega) hr h0r]; first | rfl | (push_cast; rfl) | (refine congrArg Ending.returned (congrArg (Value.int IntKind.i64) ?_); first | rfl | (push_cast; omega) | omega | simp))
        | (have hn1 : Lib.NoOccB s sub (k + 1) := by first | exact Lib.miss_piece s sub (k) hno (by omega) (by assumption) | exact Lib.miss_second s sub (k) hno hn2 (by omega) (by assumption)
           have h0r : r < 0 := by assumption
           go_ret; refine ⟨?_, by first | exact ⟨0, rfl⟩ | exact ⟨_, rfl⟩⟩; rw [show Lib.index s.data.toList sub.data.toList = -1 from Lib.fb_neg s sub (k + 1) hn1 (by omega) hr h0r hr1]; first | rfl | (push_cast; rfl) | (refine congrArg Ending.returned (congrArg (Value.int IntKind.i64) ?_); first | rfl | (push_cast; omega) | omega | simp))
        | (refine ⟨⟨k + 1, fl + 1, by push_cast; rfl, by push_cast; rfl, by omega, by omega, ?_⟩, ?_⟩
           · first | exact Lib.miss_piece s sub (k) hno (by omega) (by assumption) | exact Lib.miss_second s sub (k) hno hn2 (by omega) (by assumption)
           · simp [RowKit.intOf] <;>
             omega)
    · go_wp2
      go_ret
      refine ⟨?_, 0, rfl⟩
      rw [show Lib.index s.data.toList sub.data.toList = -1 from Lib.past s sub k hno (by omega) (by omega)]
      first | rfl | (push_cast; rfl) | (refine congrArg Ending.returned (congrArg (Value.int IntKind.i64) ?_); first | rfl | (push_cast; omega) | omega | simp)
end Go.Proofs.YtpaieadnicmplaaDoor

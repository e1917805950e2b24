/- The reference's pieces at any number. -/
import Derived.Test.YtpaieadnicmplaaDoorExSp
import Derived.Test.YtpaieadnicmplaaDoorPcs3
set_option linter.unusedVariables false
namespace Go.Proofs.YtpaieadnicmplaaDoor
open Go.RowKit Go.Lib

set_option maxHeartbeats 1000000 in
theorem SePieces_zero (s sep : ByteArray) (keep : Bool) (w : World) :
    Calls Tryd.prog 12 #[.string s, .string sep, .int .i64 0, .bool keep] w fun e W' => e = .returned (.slice none 0 0) ∧ w = W' := by
  go_enter Tryd.func12, Tryd.ntmps12
  go_wp2
  go_ret
  exact ⟨rfl, rfl⟩

/-- All pieces, none for n = 0. -/
def nP (s sep : ByteArray) (sv : Nat) (n : Int) : List ByteArray := if n = 0 then [] else allP s sep sv n
theorem nP_small (s sep : ByteArray) (sv : Nat) (n : Int) (hs : s.size < 2147483648) : (nP s sep sv n).length < 4294967281 := by
  unfold nP
  split
  · decide
  · next h => exact allP_small s sep sv n h hs

theorem wrap_min (n : Int) (h : n = -9223372036854775808) : wrap64 (n - 1) = 9223372036854775807 := by subst h; unfold wrap64; omega
theorem SePieces_min (s sep : ByteArray) (n : Int) (hn : n = -9223372036854775808) (w : World) (hs : s.size < 2147483648) (hp : sep.size < 2147483648) (hne : 1 ≤ s.size ∨ 1 ≤ sep.size) :
    Calls Tryd.prog 12 #[.string s, .string sep, .int .i64 n, .bool false] w fun e W' => ∃ v, e = .returned v ∧ StrsAt W' v (allP s sep 0 n) ∧ Below w.heap.size w W' := by
  have hn' : (n == 0) = false := beq_eq_false_iff_ne.2 (by omega)
  have hL : lim s 9223372036854775807 = 9223372036854775807 := by rw [lim, if_neg (by decide)]; rfl
  have hw := wrap_min n hn
  by_cases h0 : sep.size = 0
  · have he := emptyS sep h0
    subst he
    have hs1 : 1 ≤ s.size := by omega
    have := SePieces_dropW s ByteArray.empty n (brkE s (lim s 9223372036854775807)) w hs hp hn' (.inl (neS hs1)) (Lib.hid (fun W => by rw [hw]; exact SeBreaks_empty s 9223372036854775807 W hs (by decide))) (Lib.hid (okB_brkE s _)) (by have := brkE_len s (lim s 9223372036854775807); omega)
    have e : allP s ByteArray.empty 0 n = piecesOf s (ByteArray.empty).size 0 0 (brkE s (lim s 9223372036854775807)) := by
      have hl1 : 1 ≤ (starts s 0).length := by rw [starts_cons s 0 (by omega)]; simp
      have hls := starts_len s s.size 0 (by omega)
      unfold allP
      rw [if_pos h0, expl]
      have hz : (ByteArray.empty).size = 0 := h0
      rw [hz]
      have hN : eN s n = (starts s 0).length := by rw [eN, if_pos (Or.inl (by omega))]
      rw [hN, hL, if_neg (by omega), brkE_whole s _ (by omega), brkE_whole s _ (by omega)]
    rw [e]
    exact this
  · have h1 : 1 ≤ sep.size := by omega
    have hE : s.toList.isEmpty = false ∨ (s.toList.isEmpty = true ∧ sep.toList.isEmpty = false) := by
      cases hc : s.toList.isEmpty with
      | false => exact .inl rfl
      | true => exact .inr ⟨rfl, neS h1⟩
    have := SePieces_dropW s sep n (brk s sep 0 (lim s 9223372036854775807)) w hs hp hn' hE (Lib.hid (fun W => by rw [hw]; exact SeBreaks_sep s sep 9223372036854775807 W hs hp h1 (by decide))) (Lib.hid (okB_brk s sep h1 (s.size + 1) 0 _ (by omega) (Nat.zero_le _) 0 (Nat.le_refl _))) (by have := brk_len s sep h1 (s.size + 1) 0 (lim s 9223372036854775807) (by omega); omega)
    have e : allP s sep 0 n = piecesOf s sep.size 0 0 (brk s sep 0 (lim s 9223372036854775807)) := by
      unfold allP
      rw [if_neg h0]
      exact pcs_pieces s sep 0 n _ h1 (Nat.zero_le _) (by omega) (fun h => by rw [hL]; omega) (fun h => by omega)
    rw [e]
    exact this

/-- The reference's pieces, whatever the texts and the number. -/
theorem SePieces_n (s sep : ByteArray) (n : Int) (w : World) (hs : s.size < 2147483648) (hp : sep.size < 2147483648) (hlo : -9223372036854775808 ≤ n) (hhi : n ≤ 9223372036854775807) :
    Calls Tryd.prog 12 #[.string s, .string sep, .int .i64 n, .bool false] w fun e W' => ∃ v, e = .returned v ∧ StrsAt W' v (nP s sep 0 n) ∧ Below w.heap.size w W' := by
  unfold nP
  by_cases h0 : n = 0
  · subst h0
    rw [if_pos rfl]
    exact (SePieces_zero s sep false w).mono fun e w' ⟨he, hw⟩ => ⟨_, he, StrsAt.nil _, hw ▸ Below.refl _ _⟩
  · rw [if_neg h0]
    by_cases hm : n = -9223372036854775808
    · by_cases hne : 1 ≤ s.size ∨ 1 ≤ sep.size
      · exact SePieces_min s sep n hm w hs hp hne
      · rw [emptyS s (by omega), emptyS sep (by omega), allP_both]
        exact (SePieces_both n w).mono fun e w' ⟨he, hw⟩ => ⟨_, he, StrsAt.nil _, hw ▸ Below.refl _ _⟩
    · exact SePieces_all s sep n w hs hp h0 (by omega) hhi

end Go.Proofs.YtpaieadnicmplaaDoor

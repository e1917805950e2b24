/- ExplP SplAP (merged by merge.py). -/
import Derived.Test.YtpaieadnicmplaaDoorPcs2
import Derived.Lib.DecodeN
import Derived.Lib.RuneCount
import Derived.Shelf.Unicode.DecodeSlow
import Derived.Shelf.Unicode.DecodeLast
import Derived.Laws.Rows
/- Plain: the code points of a text as pieces. -/
set_option linter.unusedVariables false
namespace Go.Proofs.YtpaieadnicmplaaDoor
open Go.RowKit Go.Lib

theorem count_starts (s : ByteArray) : ∀ f a, s.size - a ≤ f → runeCountFrom s f a = (starts s a).length
  | 0, a, h => by rw [starts_end s a (by omega)]; rfl
  | f + 1, a, h => by
    unfold runeCountFrom
    by_cases ha : a < s.size
    · have hw := decode_width_pos s a ha
      rw [if_pos ha, starts_cons s a ha, List.length_cons, count_starts s f _ (by omega)]; omega
    · rw [if_neg ha, starts_end s a (by omega)]; rfl
theorem runeCount_starts (s : ByteArray) : runeCount s = (starts s 0).length := count_starts s s.size 0 (by omega)

theorem decode_suffix (s : ByteArray) (a : Nat) (h : a < s.size) : decodeGo (s.extract a s.size) = Utf8.decode s a := by
  have hz : (s.extract a s.size).size = s.size - a := by rw [ByteArray.size_extract]; omega
  have hg : ∀ j, (s.extract a s.size).get! j = s.get! (a + j) := fun j => by
    rw [← getD_get!, ← getD_get!, x_list]
    simp [List.getD, List.getElem?_drop]
  unfold decodeGo
  rw [if_neg (by omega), decode_at, decode_at, hz, hg, hg, hg, hg]
  rfl

/-- The pieces, N of them. -/
def expl (s : ByteArray) (N : Nat) : List ByteArray := if N = 0 then [] else piecesOf s 0 0 0 (brkE s (N - 1))
/-- How many. -/
def eN (s : ByteArray) (n : Int) : Nat := if n < 0 ∨ ((starts s 0).length : Int) < n then (starts s 0).length else n.toNat
theorem eN_le (s : ByteArray) (n : Int) : eN s n ≤ (starts s 0).length := by
  unfold eN; split <;> omega
theorem expl_len (s : ByteArray) (N : Nat) (h : N ≤ (starts s 0).length) : (expl s N).length = N := by
  unfold expl
  split
  · next h0 => rw [h0]; rfl
  · rw [piecesOf_len]; unfold brkE; rw [List.length_take, List.length_drop]; omega

theorem heap_alloc_last' (w : World) (o : Obj) : (w.alloc o).heap[w.heap.size]? = some o := by
  show (w.heap.push o)[w.heap.size]? = some o
  simp
theorem row_at (xs : List ByteArray) (N B : Nat) (w : World) (hh : w.heap[B]? = some (.cells (cellsOf xs N) 9 (0, 0))) (hN : xs.length = N) : StrsAt w (.slice (some ⟨B, 0, none⟩) N N) xs := by
  subst hN
  exact ⟨_, _, rfl, Nat.le_refl _, fun _ => ⟨B, 0, rfl, (Array.getElem?_eq_some_iff.1 hh).1, fun j u hu => by rw [Nat.zero_add, cell_of_row w B j _ _ _ hh]; exact cellsOf_at hu⟩⟩

end Go.Proofs.YtpaieadnicmplaaDoor

/- All pieces; what the reference says of them. -/
set_option linter.unusedVariables false
namespace Go.Proofs.YtpaieadnicmplaaDoor
open Go.RowKit Go.Lib

theorem emptyS (c : ByteArray) (h : c.size = 0) : c = ByteArray.empty := by
  apply ByteArray.ext; apply Array.toList_inj.1; apply List.length_eq_zero_iff.1
  rw [Array.length_toList]; exact h
theorem neS {c : ByteArray} (h : 1 ≤ c.size) : c.toList.isEmpty = false := by
  rw [Go.ByteArray.toList_eq]
  cases hc : c.data.toList with
  | nil => have := Lib.size_eq c; rw [hc, List.length_nil] at this; omega
  | cons _ _ => rfl

/-- All pieces. -/
def allP (s sep : ByteArray) (sv : Nat) (n : Int) : List ByteArray := if sep.size = 0 then expl s (eN s n) else pcs s sep sv n
theorem allP_small (s sep : ByteArray) (sv : Nat) (n : Int) (hn : n ≠ 0) (hs : s.size < 2147483648) : (allP s sep sv n).length < 4294967281 := by
  unfold allP
  split
  · have := eN_le s n
    rw [expl_len s _ this]
    have := starts_len s s.size 0 (by omega)
    omega
  · exact pcs_small s sep sv n hn hs

theorem brkE_whole (s : ByteArray) (M : Nat) (h : (starts s 0).length ≤ M + 1) : brkE s M = (starts s 0).drop 1 := by
  unfold brkE; exact List.take_of_length_le (by rw [List.length_drop]; omega)
theorem brkE_len (s : ByteArray) (M : Nat) : (brkE s M).length ≤ s.size := by
  have := starts_len s s.size 0 (by omega)
  unfold brkE; rw [List.length_take, List.length_drop]; omega

/-- The reference's pieces are those of Split: every text, every separator, both not empty at once. -/
theorem SePieces_any (s sep : ByteArray) (n : Int) (w : World) (hs : s.size < 2147483648) (hp : sep.size < 2147483648) (hn0 : n ≠ 0) (hlo : -9223372036854775807 ≤ n) (hhi : n ≤ 9223372036854775807) (hne : 1 ≤ s.size ∨ 1 ≤ sep.size) :
    Calls Tryd.prog 12 #[.string s, .string sep, .int .i64 n, .bool false] w fun e W' => ∃ v, e = .returned v ∧ StrsAt W' v (allP s sep 0 n) ∧ Below w.heap.size w W' := by
  have hn' : (n == 0) = false := beq_eq_false_iff_ne.2 hn0
  by_cases h0 : sep.size = 0
  · have he := emptyS sep h0
    subst he
    have hs1 : 1 ≤ s.size := by omega
    have := SePieces_drop s ByteArray.empty n (brkE s (lim s (n - 1))) w hs hp hn' hlo hhi (.inl (neS hs1)) (Lib.hid (fun W => SeBreaks_empty s (n - 1) W hs (by omega))) (Lib.hid (okB_brkE s _)) (by have := brkE_len s (lim s (n - 1)); omega)
    have e : allP s ByteArray.empty 0 n = piecesOf s (ByteArray.empty).size 0 0 (brkE s (lim s (n - 1))) := by
      have hl1 : 1 ≤ (starts s 0).length := by rw [starts_cons s 0 (by omega)]; simp
      have hls := starts_len s s.size 0 (by omega)
      unfold allP
      rw [if_pos h0, expl]
      have hz : (ByteArray.empty).size = 0 := h0
      rw [hz]
      by_cases h1 : n < 0
      · have hN : eN s n = (starts s 0).length := by rw [eN, if_pos (Or.inl h1)]
        have hL : lim s (n - 1) = s.size + 1 := by rw [lim, if_pos (by omega)]
        rw [hN, hL, if_neg (by omega), brkE_whole s _ (by omega), brkE_whole s _ (by omega)]
      · have hL : lim s (n - 1) = (n - 1).toNat := by rw [lim, if_neg (by omega)]
        by_cases h2 : ((starts s 0).length : Int) < n
        · have hN : eN s n = (starts s 0).length := by rw [eN, if_pos (Or.inr h2)]
          rw [hN, hL, if_neg (by omega), brkE_whole s _ (by omega), brkE_whole s _ (by omega)]
        · have hN : eN s n = n.toNat := by rw [eN, if_neg (by omega)]
          rw [hN, hL, if_neg (by omega), show n.toNat - 1 = (n - 1).toNat by omega]
    rw [e]
    exact this
  · have h1 : 1 ≤ sep.size := by omega
    have hE : s.toList.isEmpty = false ∨ (s.toList.isEmpty = true ∧ sep.toList.isEmpty = false) := by
      cases hc : s.toList.isEmpty with
      | false => exact .inl rfl
      | true => exact .inr ⟨rfl, neS h1⟩
    have := SePieces_drop s sep n (brk s sep 0 (lim s (n - 1))) w hs hp hn' hlo hhi hE (Lib.hid (fun W => SeBreaks_sep s sep (n - 1) W hs hp h1 (by omega))) (Lib.hid (okB_brk s sep h1 (s.size + 1) 0 _ (by omega) (Nat.zero_le _) 0 (Nat.le_refl _))) (by have := brk_len s sep h1 (s.size + 1) 0 (lim s (n - 1)) (by omega); omega)
    have e : allP s sep 0 n = piecesOf s sep.size 0 0 (brk s sep 0 (lim s (n - 1))) := by
      unfold allP
      rw [if_neg h0]
      refine pcs_pieces s sep 0 n _ h1 (Nat.zero_le _) hn0 (fun h => ?_) (fun h => ?_)
      · unfold lim; rw [if_pos (by omega)]; omega
      · unfold lim; rw [if_neg (by omega)]; left; omega
    rw [e]
    exact this
theorem bl3 {w w1 w2 : World} (h1 : Hid (Below w.heap.size w w1)) (h2 : Below w1.heap.size w1 w2) : Hid (Below w.heap.size w w2) := h1.out.trans (h2.mono h1.out.size)
theorem StrsAt.slice {w : World} {v : Value} {xs : List ByteArray} (h : StrsAt w v xs) : ∃ A c, v = .slice A xs.length c := by
  obtain ⟨A, c, e, _, _⟩ := h
  exact ⟨A, c, e⟩

set_option maxHeartbeats 1000000 in
theorem SePieces_both (n : Int) (w : World) :
    Calls Tryd.prog 12 #[.string ByteArray.empty, .string ByteArray.empty, .int .i64 n, .bool false] w fun e W' => e = .returned (.slice none 0 0) ∧ w = W' := by
  by_cases h : (n == 0) = true
  · go_enter Tryd.func12, Tryd.ntmps12
    go_wp2
    go_ret
    exact ⟨rfl, rfl⟩
  · have h' : (n == 0) = false := by simpa using h
    clear h
    go_enter Tryd.func12, Tryd.ntmps12
    go_wp2
    go_ret
    exact ⟨rfl, rfl⟩

theorem allP_both (n : Int) : allP ByteArray.empty ByteArray.empty 0 n = [] := by
  unfold allP
  rw [if_pos (show (ByteArray.empty).size = 0 from rfl)]
  have h : (starts ByteArray.empty 0).length = 0 := by rw [starts_end ByteArray.empty 0 (show (ByteArray.empty).size ≤ 0 from Nat.le_refl 0)]; rfl
  have := eN_le ByteArray.empty n
  rw [expl, if_pos (by omega)]

/-- The reference's pieces, whatever the texts. -/
theorem SePieces_all (s sep : ByteArray) (n : Int) (w : World) (hs : s.size < 2147483648) (hp : sep.size < 2147483648) (hn0 : n ≠ 0) (hlo : -9223372036854775807 ≤ n) (hhi : n ≤ 9223372036854775807) :
    Calls Tryd.prog 12 #[.string s, .string sep, .int .i64 n, .bool false] w fun e W' => ∃ v, e = .returned v ∧ StrsAt W' v (allP s sep 0 n) ∧ Below w.heap.size w W' := by
  by_cases hne : 1 ≤ s.size ∨ 1 ≤ sep.size
  · exact SePieces_any s sep n w hs hp hn0 hlo hhi hne
  · rw [emptyS s (by omega), emptyS sep (by omega), allP_both]
    exact (SePieces_both n w).mono fun e w' ⟨he, hw⟩ => ⟨_, he, StrsAt.nil _, hw ▸ Below.refl _ _⟩

end Go.Proofs.YtpaieadnicmplaaDoor

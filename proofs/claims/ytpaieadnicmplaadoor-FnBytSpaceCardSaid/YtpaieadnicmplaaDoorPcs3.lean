/- SePieces at the least number: n - 1 wraps. -/
import Derived.Test.YtpaieadnicmplaaDoorPcs2
set_option linter.unusedVariables false
namespace Go.Proofs.YtpaieadnicmplaaDoor
open Go.RowKit Go.Lib

set_option maxRecDepth 100000 in
set_option maxHeartbeats 8000000 in
theorem SePieces_dropW (s sep : ByteArray) (n : Int) (B : List Nat) (w : World) (hs : s.size < 2147483648) (hp : sep.size < 2147483648) (hn0 : (n == 0) = false)
    (hE : s.toList.isEmpty = false ∨ (s.toList.isEmpty = true ∧ sep.toList.isEmpty = false))
    (HBrk : Hid (∀ W, Calls Tryd.prog 27 #[.string s, .string sep, .int .i64 (wrap64 (n - 1))] W fun e W' => ∃ v, e = .returned v ∧ IntsAt W' v B ∧ Below W.heap.size W W')) (HOk : Hid (okB s sep.size 0 B)) (hBl : B.length ≤ s.size + 1) :
    Calls Tryd.prog 12 #[.string s, .string sep, .int .i64 n, .bool false] w fun e W' => ∃ v, e = .returned v ∧ StrsAt W' v (piecesOf s sep.size (0) 0 B) ∧ Below w.heap.size w W' := by
  obtain ⟨i0, hi, hz0, hz1, hz2⟩ := info_parts str_info
  rcases hE with hE1 | ⟨hE1, hE2⟩
  all_goals
    go_enter Tryd.func12, Tryd.ntmps12
    go_wp2_with fail
    refine (HBrk.out _).mono ?_
    rintro e w1 ⟨v, rfl, hI, hB1⟩
    obtain ⟨A, cp, rfl, hc, hx⟩ := hI
    have HX := Lib.hid hx
    have HB1 := Lib.hid hB1
    clear hx hB1
    have hB1s := HB1.out.size
    go_wp2_with fail
    go_loopg [9, 10, 30] B.length (fun g v av iv W => ∃ (k a : Nat) (dn : List ByteArray), k ≤ B.length ∧ B.length ≤ k + g ∧ iv = .int .i64 k ∧ av = .int .i64 a ∧ a ≤ s.size ∧ dn.length = k ∧ Hid (okB s sep.size a (B.drop k)) ∧ Hid (dn ++ piecesOf s sep.size (0) a (B.drop k) = piecesOf s sep.size (0) 0 B) ∧ Hid (W.ownsRow w1.heap.size 9 1 v dn.length (dn.map Value.string)) ∧ Hid (Below w1.heap.size w1 W))
    case atStart => exact ⟨0, 0, [], Nat.zero_le _, by omega, rfl, rfl, Nat.zero_le _, rfl, HOk, rfl, World.ownsRow_nil _ _ _ _, Below.refl _ _⟩
    case round =>
      obtain ⟨k, a, dn, hk, hg, rfl, rfl, has, hdk, HO, HD, HR, HB⟩ := hrel
      have hBs := HB.out.size
      have hmx : dn.length + 1 ≤ maxLen := by unfold maxLen; omega
      have hdl : dn.length ≤ 2147483648 := by omega
      by_cases hlt : k < B.length
      · obtain ⟨u, hu⟩ : ∃ u, B[k]? = some u := ⟨B[k], List.getElem?_eq_getElem hlt⟩
        obtain ⟨g, o, rfl, hg', hcell⟩ := HX.out (by rintro rfl; simp at hlt)
        have hcu : wr.cell? ⟨g, o + k, none⟩ = some (.int .i64 (u : Int)) := (HB.out.cell (p := ⟨g, o + k, none⟩) hg').trans (hcell k u hu)
        have hok := HO.out
        rw [drop_consN hu] at hok
        obtain ⟨hau, hus, hok'⟩ := hok
        have HO' := Lib.hid hok'
        have HD' : Hid ((dn ++ [s.extract a u]) ++ piecesOf s sep.size (0) (u + sep.size) (B.drop (k + 1)) = piecesOf s sep.size (0) 0 B) := by
          have := HD.out
          rw [drop_consN hu] at this
          rw [List.append_assoc]; exact this
        have HDK := Lib.hid hdk
        clear hcell hu hok' hdk
        have q1 : (a : Int) ≤ (u : Int) := by omega
        have q2 : (u : Int) ≤ s.size := by omega
        go_wp2_with (at_builtin; refine wpList_append_own _ rfl _ _ 28 rfl w1.heap.size 9 i0 (.string ByteArray.empty) 1 16 Tryd.underlying28 hi hz0 hz1 hz2 rfl (by decide) _ _ _ rfl (HR.out.alloc _) ⟨wr.heap.size, 0, none⟩ 1 1 [.string (s.extract a u)] rfl rfl (cell_one_new _ _ _) (by simp [Value.oneCell']) hmx (by omega) (by simp; omega) ?_; intro v' w2 hown' hgrow _; have hB2 : Below w1.heap.size w1 w2 := (HB.out.alloc hBs _).grown hgrow (by simp; omega) (fun j ej => (HR.out.lt j ej).1); obtain ⟨g', cap', rfl⟩ := ownsRow_succ hown'; have HW := Lib.hid hown'; have HB2 := Lib.hid hB2; clear hown' hgrow hB2)
        go_roundg (gk - 1)
        case measure => omega
        case rel => exact ⟨k + 1, u + sep.size, dn ++ [s.extract a u], by omega, by omega, by go_num, by go_num, by omega, by rw [List.length_append, HDK.out]; rfl, HO', HD', Lib.hid (by have := HW.out; simpa using this), HB2⟩
      · have HT : Hid (dn ++ [s.extract a s.size] = piecesOf s sep.size (0) 0 B) := by
          have := HD.out
          rw [List.drop_eq_nil_of_le (by omega)] at this
          exact this
        have HDK := Lib.hid hdk
        clear hdk
        have q1 : (a : Int) ≤ s.size := by omega
        go_wp2_with (at_builtin; refine wpList_append_own _ rfl _ _ 28 rfl w1.heap.size 9 i0 (.string ByteArray.empty) 1 16 Tryd.underlying28 hi hz0 hz1 hz2 rfl (by decide) _ _ _ rfl (HR.out.alloc _) ⟨wr.heap.size, 0, none⟩ 1 1 [.string (s.extract a s.size)] rfl rfl (cell_one_new _ _ _) (by simp [Value.oneCell']) hmx (by omega) (by simp; omega) ?_; intro v' w2 hown' hgrow _; have hB2 : Below w1.heap.size w1 w2 := (HB.out.alloc hBs _).grown hgrow (by simp; omega) (fun j ej => (HR.out.lt j ej).1); obtain ⟨g', cap', rfl⟩ := ownsRow_succ hown'; have HW := Lib.hid hown'; have HB2 := Lib.hid hB2; clear hown' hgrow hB2)
        have HS : Hid (StrsAt w2 (.slice (some ⟨g', 0, none⟩) (dn.length + 1) cap') (piecesOf s sep.size (0) 0 B)) := by
          rw [← HT.out]
          exact StrsAt.of_own (by have := HW.out; simpa using this)
        go_ret
        exact ⟨_, rfl, HS.out, HB1.out.trans (HB2.out.mono hB1s)⟩
end Go.Proofs.YtpaieadnicmplaaDoor

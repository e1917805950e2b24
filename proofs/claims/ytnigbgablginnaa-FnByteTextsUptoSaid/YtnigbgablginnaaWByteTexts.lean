/- The walk of FnByteTexts. -/
import Derived.Test.YtnigbgablginnaaBtL
import Derived.Lib.AppendStr
import Derived.Deep.RegionLaw
import Derived.Deep.AppendLies
import Derived.Deep.QuietTactic
import Derived.BigQuiet
set_option linter.unusedVariables false
namespace Go.Proofs.Ytnigbgablginnaa
open Go.RowKit Go.Lib

/-- What is made of the first k bytes. -/
def btO (o : ByteArray) (ns : List ByteArray) (s : ByteArray) (k : Nat) : Bs := (s.data.toList.take k).flatMap (byteTo (prs (btK o ns o.size)))
theorem btO_succ (o : ByteArray) (ns : List ByteArray) (s : ByteArray) (k : Nat) (h : k < s.size) : btO o ns s (k + 1) = btO o ns s k ++ byteTo (prs (btK o ns o.size)) s[k] := by
  have h1 : s.data.toList[k]? = some s[k] := byte_at s k h
  unfold btO
  rw [List.take_add_one, h1, List.flatMap_append]
  simp
theorem fm_len2 (f : UInt8 → Bs) (m : Nat) (h : ∀ c, (f c).length ≤ m) : ∀ l : Bs, (l.flatMap f).length ≤ l.length * m
  | [] => Nat.zero_le _
  | c :: r => by
    rw [List.flatMap_cons, List.length_append, List.length_cons, Nat.succ_mul]
    have := h c
    have := fm_len2 f m h r
    omega
theorem btO_len {o : ByteArray} {ns : List ByteArray} (hn : ∀ x ∈ ns, x.size ≤ 1048576) (s : ByteArray) (k : Nat) (hk : k ≤ 1048576) : (btO o ns s k).length ≤ 1099511627776 := by
  have h1 := fm_len2 (byteTo (prs (btK o ns o.size))) 1048576 (byteTo_len2 hn) (s.data.toList.take k)
  have h2 : (s.data.toList.take k).length ≤ 1048576 := by rw [List.length_take]; omega
  have h3 : (s.data.toList.take k).length * 1048576 ≤ 1048576 * 1048576 := Nat.mul_le_mul_right _ h2
  unfold btO
  omega
theorem bt_cons (o : ByteArray) (ns : List ByteArray) (k : Nat) (y : ByteArray) (h : ns[k]? = some y) : (btK o ns k).map Value.string ++ [.string (o.extract k (k + 1)), .string y] = (btK o ns (k + 1)).map Value.string := by
  rw [btK, List.map_append, List.getD_eq_getElem?_getD, h]; rfl
theorem two_news (W : World) (a b : ByteArray) : ∀ j u, [Value.string a, Value.string b][j]? = some u → (W.alloc (.cells #[.string a, .string b] 9)).cell? (Addr.add ⟨W.heap.size, 0, none⟩ j) = some u := fun j u hu => by
  rw [Addr.add_mid, Nat.zero_add, cell_of_row _ _ _ _ _ _ (heap_alloc_new W _)]
  match j, hu with
  | 0, hu => cases hu; rfl
  | 1, hu => cases hu; rfl
theorem two_one (a b : ByteArray) : ∀ u ∈ [Value.string a, Value.string b], u.oneCell' = true := fun u hu => by
  simp only [List.mem_cons, List.not_mem_nil, or_false] at hu
  rcases hu with rfl | rfl <;> rfl

set_option maxRecDepth 100000 in
set_option maxHeartbeats 4000000 in
theorem walk_FnByteTexts (ol : ByteArray) (v : Value) (ns : List ByteArray) (s : ByteArray) (w : World) (_ho : ol.size ≤ maxLen) (hv : StrsAt w v ns) (hz : ∀ x ∈ ns, x.size ≤ maxLen) (hl : ns.length ≤ maxLen) (_hs : s.size ≤ maxLen) (hb : ol.size + bulkS ns + s.size ≤ 1048576) :
    Calls Try.prog 11 #[.string ol, v, .string s] w fun e w' => e = .returned (.bool true) ∧ Below w.heap.size w w' := by
  have HFi := Lib.hid (front hv hl (by omega))
  have hss : s.size ≤ 1048576 := by omega
  have hoo : ol.size ≤ 1048576 := by omega
  have hn : ns.length ≤ 1048576 := by have := bulkS_len ns; omega
  have hnz : ∀ x ∈ ns, x.size ≤ 1048576 := fun x hx => by have := bulkS_mem hx; omega
  obtain ⟨A, c, rfl⟩ := hv.shape
  obtain ⟨_, hc, hcells⟩ := hv.cells
  have HC := Lib.hid hcells
  by_cases hlt : ns.length < ol.size
  · clear hv hz hl _ho _hs hb hcells hnz
    generalize ns.length = n at *
    have hltz : (n : Int) < (ol.size : Int) := by omega
    go_enter Try.func11, Try.ntmps11
    go_wp2_with (go_at_call 18; (with_reducible refine HFi.out.mono ?_); rintro e w' ⟨rfl, rfl⟩)
    go_ret
    exact ⟨rfl, Below.refl _ _⟩
  · have HLen := Lib.hid (fun k hk => btO_len (o := ol) hnz s k hk)
    have HBt := Lib.hid (few_bt hoo hnz ol.size (Nat.le_refl _))
    have HNZ := Lib.hid hnz
    have HGet : Hid (∀ k, k < ol.size → ∃ y, ns[k]? = some y) := Lib.hid (fun k hk => ⟨_, List.getElem?_eq_getElem (by omega)⟩)
    have hge : ¬ ((ns.length : Int) < (ol.size : Int)) := by omega
    have hon : ol.size ≤ ns.length := by omega
    clear hv hz hl _ho _hs hb hcells hnz hlt
    generalize ns.length = n at *
    have hgd : decide ((n : Int) < (ol.size : Int)) = false := decide_eq_false hge
    have hgd2 : decide (n < ol.size) = false := decide_eq_false (by omega)
    obtain ⟨i0, hi, hz0, hz1, hz2⟩ := info_parts str_info
    obtain ⟨i1, hi', hy0, hy1, hy2⟩ := info_parts u8InfoS
    go_enter Try.func11, Try.ntmps11
    go_wp2_with (go_at_call 18; (with_reducible refine HFi.out.mono ?_); rintro e w' ⟨rfl, rfl⟩)
    go_loopw [7, 32] (fun pv iv W => ∃ k : Nat, k ≤ ol.size ∧ iv = .int .i64 k ∧ Hid (W.ownsRow w.heap.size 9 1 pv (2 * k) ((btK ol ns k).map Value.string)) ∧ Hid (Below w.heap.size w W)) (fun _ iv _ => ol.size - (RowKit.intOf iv).toNat)
    case atStart => exact ⟨0, Nat.zero_le _, rfl, Lib.hid (World.ownsRow_nil _ _ _ _), Lib.hid (Below.refl _ _)⟩
    case round =>
      obtain ⟨k, hk, rfl, HR, HB⟩ := hrel
      by_cases hlt : k < ol.size
      · obtain ⟨y, hy⟩ := HGet.out k hlt
        obtain ⟨G, o, rfl, hG, hcell⟩ := HC.out k y hy
        have HY := Lib.hid (bt_cons ol ns k y hy)
        have c0 : wr.cell? ⟨G, o + k, none⟩ = some (.string y) := (HB.out.cell (p := ⟨G, o + k, none⟩) hG).trans hcell
        have hltz : (k : Int) < (ol.size : Int) := by omega
        have hkn : (k : Int) < (n : Int) := by omega
        have k1 : (k : Int) + 1 ≤ (ol.size : Int) := by omega
        have k2 : IntKind.i64.wrap ((k : Int) + 1) = (k : Int) + 1 := IntWalk.i64_in _ (by omega)
        have k3 : ((k : Int) + 1).toNat = k + 1 := by omega
        have k4 : (0 : Int) ≤ (k : Int) + 1 := by omega
        have k5 : (k : Int) ≤ (k : Int) + 1 := by omega
        have HR' : Hid (((wr.alloc (.cells #[.string (ol.extract k (k + 1)), .string y] 9)).drew).ownsRow w.heap.size 9 1 u7 (2 * k) ((btK ol ns k).map Value.string)) := Lib.hid (HR.out.alloc _)
        have HN' : Hid (∀ j u, [Value.string (ol.extract k (k + 1)), Value.string y][j]? = some u → ((wr.alloc (.cells #[.string (ol.extract k (k + 1)), .string y] 9)).drew).cell? (Addr.add ⟨wr.heap.size, 0, none⟩ j) = some u) := Lib.hid (two_news wr _ _)
        have hsz : ((wr.alloc (.cells #[.string (ol.extract k (k + 1)), .string y] 9)).drew).heap.size = wr.heap.size + 1 := by simp
        have hbs : w.heap.size ≤ ((wr.alloc (.cells #[.string (ol.extract k (k + 1)), .string y] 9)).drew).heap.size := by have := HB.out.size; rw [hsz]; omega
        have HB' : Hid (Below w.heap.size w ((wr.alloc (.cells #[.string (ol.extract k (k + 1)), .string y] 9)).drew)) := Lib.hid ((HB.out.alloc HB.out.size _).drew)
        have HSZ := Lib.hid hsz
        have HBS := Lib.hid hbs
        clear hy hcell hsz hbs
        go_wp2_with fail
        go_region_law ((refine step_append_lies _ (by rfl) _ _ 22 (by rfl) w.heap.size 9 i0 (.string ByteArray.empty) 1 16 Try.underlying22 hi hz0 hz1 hz2 rfl (by decide) _ _ _ (by rfl) HR'.out ⟨wr.heap.size, 0, none⟩ 2 2 [.string (ol.extract k (k + 1)), .string y] (by rfl) rfl HN'.out (two_one _ _) (by decide) (by unfold maxLen; omega) (by omega) HBS.out (wr.heap.size + 1) HSZ.out ?_; intro g cap w1 hown hgrow _ _; have HB1 : Hid (Below w.heap.size w w1) := Lib.hid (HB'.out.grown hgrow HBS.out (fun j ej => (HR'.out.lt j ej).1)); have HR1 := Lib.hid hown; clear hown hgrow))
        go_wp2_with fail
        go_roundw
        case rel => exact ⟨k + 1, by omega, by go_num, Lib.hid (by rw [← HY.out]; exact HR1.out), HB1⟩
        case measure => simp [RowKit.intOf]; omega
      · obtain rfl : k = ol.size := by omega
        have hltz : ¬ ((ol.size : Int) < (ol.size : Int)) := by omega
        have hS : StrsAt wr u7 (btK ol ns ol.size) := StrsAt.of_own (base := w.heap.size) (e := 9) (by rw [btK_len]; exact HR.out)
        have HS := Lib.hid hS
        have HTot : Hid (repl (prs (btK ol ns ol.size)) s.data.toList true = btO ol ns s s.size) := Lib.hid (by
          rw [repl_bytes (btP_one ol ns)]
          unfold btO
          rw [List.take_of_length_le (by have := Lib.size_eq s; omega)])
        have HIs := Lib.hid (fun (W : World) (hW : StrsAt W u7 (btK ol ns ol.size)) => rpIsA HBt.out u7 s ⟨(btO ol ns s s.size).toArray⟩ W hW (by omega) HTot.out)
        clear hS HR hlt hk
        obtain ⟨W1, hW1⟩ : ∃ W1, W1 = wr := ⟨_, rfl⟩
        subst hW1
        go_wp2_with fail
        go_loopw [9, 50] (fun bv iv W => ∃ k : Nat, k ≤ s.size ∧ iv = .int .i64 k ∧ Hid (W.ownsRow W1.heap.size 5 1 bv (btO ol ns s k).length (Lib.byteCells (btO ol ns s k))) ∧ Hid (Below W1.heap.size W1 W)) (fun _ iv _ => s.size - (RowKit.intOf iv).toNat)
        case atStart => exact ⟨0, Nat.zero_le _, rfl, Lib.hid (World.ownsRow_nil _ _ _ _), Lib.hid (Below.refl _ _)⟩
        case round =>
          obtain ⟨k, hk, rfl, HR, HB1⟩ := hrel
          by_cases hlt : k < s.size
          · have hltz : (k : Int) < (s.size : Int) := by omega
            have hlen := HLen.out k (by omega)
            have hlen2 := HLen.out (k + 1) (by omega)
            have HSu := Lib.hid (btO_succ ol ns s k hlt)
            have hidx := idx_run s (k : Int) k rfl hlt
            obtain ⟨W2, hW2⟩ : ∃ W2, W2 = wr := ⟨_, rfl⟩
            subst hW2
            go_wp2_with fail
            go_loopw [11] (fun jv W => ∃ m j : Nat, W = W2.drewN m ∧ j ≤ ol.size ∧ jv = .int .i64 j ∧ Hid (NoC ol s[k] j)) (fun jv _ => ol.size - (RowKit.intOf jv).toNat)
            case atStart => exact ⟨0, 0, rfl, Nat.zero_le _, rfl, Lib.hid (NoC.zero _ _)⟩
            case round =>
              obtain ⟨m, j, rfl, hj, rfl, HN⟩ := hrel
              by_cases hlj : j < ol.size
              · have hjz : (j : Int) < (ol.size : Int) := by omega
                have hjd : decide ((j : Int) < (ol.size : Int)) = true := decide_eq_true hjz
                have hidx2 := idx_run ol (j : Int) j rfl hlj
                by_cases heq : ol[j] = s[k]
                · have hb0 : ((ol[j].toNat : Int) != (s[k].toNat : Int)) = false := by rw [heq]; simp
                  obtain ⟨y, hy⟩ := HGet.out j hlj
                  obtain ⟨G, o, rfl, hG, hcell⟩ := HC.out j y hy
                  have HTo := Lib.hid (HN.out.hit hlj heq hy)
                  have c0 : ∀ m, (W2.drewN m).cell? ⟨G, o + j, none⟩ = some (.string y) := fun m => (HB1.out.cell (p := ⟨G, o + j, none⟩) (Nat.lt_of_lt_of_le hG HB.out.size)).trans ((HB.out.cell (p := ⟨G, o + j, none⟩) hG).trans hcell)
                  have hjn : (j : Int) < (n : Int) := by omega
                  have HSZ := Lib.hid (Lib.size_eq y)
                  have HYM := Lib.hid (List.mem_of_getElem? hy)
                  clear heq hy hcell
                  go_wp2_with fail
                  go_quiet (fail)
                  generalize hW3 : World.drewN _ _ = W3
                  have HW3 : Hid (Below W2.heap.size W2 W3) := Lib.hid (by rw [← hW3]; first | exact ((bDr _ W2 m).trans (bDr _ _ _)) | exact bDr _ W2 _)
                  have c3 : W3.cell? ⟨G, o + j, none⟩ = some (.string y) := by rw [← hW3]; exact c0 m
                  clear hW3 c0
                  have HR3 := Lib.hid (ownsRow_bel HR.out HW3.out)
                  have HB3 := Lib.hid (HB1.out.trans (HW3.out.mono HB1.out.size))
                  have hyz := HNZ.out y (HYM.out)
                  go_wp2_with (at_builtin; refine Lib.wpList_append_own_string _ rfl _ _ 41 9 rfl W1.heap.size 5 i1 Try.underlying41 Try.underlying9 hi' hy0 hy1 hy2 _ _ _ rfl HR3.out y rfl (by unfold maxLen; omega) (by omega) HB3.out.size ?_; intro v' w3 hown hgrow _; have HB4 : Hid (Below W1.heap.size W1 w3) := Lib.hid (HB3.out.grown hgrow HB3.out.size (fun i ei => (HR3.out.lt i ei).1)); have HO := Lib.hid hown; clear hown hgrow)
                  go_roundw
                  case rel => exact ⟨k + 1, by omega, by go_num, Lib.hid (by rw [HSu.out, HTo.out, List.length_append, ← HSZ.out, Lib.byteCells_append, ← Lib.strCells_eq]; exact HO.out), HB4⟩
                  case measure => simp [RowKit.intOf]; omega
                · have hb0 : ((ol[j].toNat : Int) != (s[k].toNat : Int)) = true := by
                    have : ol[j].toNat ≠ s[k].toNat := fun e => heq (UInt8.toNat_inj.1 e)
                    rw [bne_iff_ne]; omega
                  have HN2 := Lib.hid (HN.out.succ hlj heq)
                  clear heq
                  go_wp2_with fail
                  go_quiet (fail)
                  go_wp2_with fail
                  go_roundw
                  case rel => exact ⟨_, j + 1, rfl, by omega, by go_num, HN2⟩
                  case measure => simp [RowKit.intOf]; omega
              · have hjz : ¬ ((j : Int) < (ol.size : Int)) := by omega
                have hjd : decide ((j : Int) < (ol.size : Int)) = false := decide_eq_false hjz
                have hjn : ¬ (j < ol.size) := hlj
                have hjd2 : decide (j < ol.size) = false := decide_eq_false hlj
                have HTo := Lib.hid (NoC.miss (ns := ns) (by have := HN.out; rw [show j = ol.size by omega] at this; exact this))
                go_wp2_with fail
                go_quiet (fail)
                generalize hW3 : World.drewN _ _ = W3
                have HW3 : Hid (Below W2.heap.size W2 W3) := Lib.hid (by rw [← hW3]; first | exact ((bDr _ W2 m).trans (bDr _ _ _)) | exact bDr _ W2 _)
                clear hW3
                have HR3 := Lib.hid (ownsRow_bel HR.out HW3.out)
                have HB3 := Lib.hid (HB1.out.trans (HW3.out.mono HB1.out.size))
                go_wp2_with (at_builtin; refine wpList_append_own _ rfl _ _ 41 rfl W1.heap.size 5 i1 (.int .u8 0) 1 1 Try.underlying41 hi' hy0 hy1 hy2 rfl (by decide) _ _ _ rfl (HR3.out.alloc _) ⟨W3.heap.size, 0, none⟩ 1 1 [.int .u8 (s[k]).toNat] rfl rfl (cell_new_at _ _ rfl _ _) (by simp [Value.oneCell']) (by unfold maxLen; omega) (by omega) (by have := HB3.out.size; simp; omega) ?_; intro v' w3 hown hgrow _; have HB4 : Hid (Below W1.heap.size W1 w3) := Lib.hid ((HB3.out.alloc HB3.out.size _).grown hgrow (by have := HB3.out.size; simp; omega) (fun i ei => (HR3.out.lt i ei).1)); have HO := Lib.hid hown; clear hown hgrow)
                go_roundw
                case rel => exact ⟨k + 1, by omega, by go_num, Lib.hid (by rw [HSu.out, HTo.out, List.length_append, Lib.byteCells_append]; exact HO.out), HB4⟩
                case measure => simp [RowKit.intOf]; omega
          · have hge2 : ¬ ((k : Int) < (s.size : Int)) := by omega
            obtain rfl : k = s.size := by omega
            have hcv := conv_own HR.out
            have HI1 := Lib.hid (HIs.out wr (HS.out.below HB1.out))
            go_wp2_with (go_at_call 23; (with_reducible refine HI1.out.mono ?_); rintro e w5 ⟨rfl, hB⟩; have HB5 := Lib.hid (HB1.out.trans (hB.mono HB1.out.size)); clear hB hcv HI1)
            go_ret
            exact ⟨rfl, HB.out.trans (HB5.out.mono HB.out.size)⟩
end Go.Proofs.Ytnigbgablginnaa

/- (*byteStringReplacer).Replace (printed by mkStrR.py). -/
import Derived.Test.YtnigbgablginnaaCntB
import Derived.Lib.SlBuf
import Derived.Deep.LoopGhost
import Derived.Deep.QuietTactic
import Derived.BigQuiet
import Derived.Laws.NewBlocks
set_option linter.unusedVariables false
namespace Go.Proofs.Ytnigbgablginnaa
open Go.RowKit Go.Lib

def gOf (f : UInt8 → Option Bs) (c : UInt8) : Bs := (f c).getD [c]
theorem fm_len (g : UInt8 → Bs) (m : Nat) (hg : ∀ c, (g c).length ≤ m) : ∀ l : Bs, (l.flatMap g).length ≤ l.length * m
  | [] => Nat.zero_le _
  | c :: l => by
    rw [List.flatMap_cons, List.length_append, List.length_cons, Nat.succ_mul]
    have := fm_len g m hg l
    have := hg c
    omega
theorem fm_take (g : UInt8 → Bs) (s : ByteArray) (k : Nat) (h : k < s.size) : (s.data.toList.take (k + 1)).flatMap g = (s.data.toList.take k).flatMap g ++ g s[k] := flatMap_take_succ g _ k _ (byte_at s k h)
theorem fm_le (g : UInt8 → Bs) (l : Bs) (k : Nat) : ((l.take k).flatMap g).length ≤ (l.flatMap g).length := by
  conv => rhs; rw [← List.take_append_drop k l, List.flatMap_append, List.length_append]
  omega
theorem Buf_push {w0 wr : World} {h N : Nat} {acc : Bs} (hb : Lib.Buf w0 wr h N acc) (c : UInt8) (hlt : acc.length < N) : Lib.Buf w0 (wr.setCell ⟨h, acc.length, none⟩ (.int .u8 c.toNat)) h N (acc ++ [c]) := by
  obtain ⟨u, hu⟩ := Option.isSome_iff_exists.1 (hb.there _ hlt)
  refine ⟨hb.below.setCell (Nat.le_refl _) _, fun j hj => ?_, fun j hj => by rw [World.frozen?_setCell]; exact hb.free j hj, fun j x hx => ?_, by rw [List.length_append]; exact hlt⟩
  · by_cases e : j = acc.length
    · subst e; rw [World.cell?_setCell_same _ _ _ hu]; rfl
    · rw [World.cell?_setCell_other _ _ _ _ (fun e2 => e (congrArg Addr.off e2).symm)]; exact hb.there j hj
  · by_cases e : j = acc.length
    · subst e
      rw [List.getElem?_append_right (Nat.le_refl _), Nat.sub_self] at hx
      cases hx
      exact World.cell?_setCell_same _ _ _ hu
    · rw [World.cell?_setCell_other _ _ _ _ (fun e2 => e (congrArg Addr.off e2).symm)]
      have : j < acc.length := by
        have := (List.getElem?_eq_some_iff.1 hx).1
        rw [List.length_append] at this
        simp at this; omega
      rw [List.getElem?_append_left this] at hx
      exact hb.holds j x hx
theorem Buf_conv {w0 wr : World} {h N : Nat} {acc : Bs} (hb : Lib.Buf w0 wr h N acc) (hN : acc.length = N) : (convert 41 9 (.slice (some ⟨h, 0, none⟩) N N)).run Try.prog wr = .ok (.string ⟨acc.toArray⟩) wr := by
  have hby : Lib.Bytes wr h 0 ⟨acc.toArray⟩ := fun i hi => by
    have hi' : i < acc.length := hi
    rw [Nat.zero_add, hb.holds i acc[i] (List.getElem?_eq_getElem hi')]
    rfl
  have := Lib.run_convert_whole (P := Try.prog) wr 41 5 9 Try.underlying41 Try.underlying5 Try.underlying9 h 0 ⟨acc.toArray⟩ hby N
  rw [show (⟨acc.toArray⟩ : ByteArray).size = N from hN] at this
  exact this
theorem rv_holds {w : World} {base B : Nat} {x : Value} {bs : Bs} (h : RvAt w base B x (some bs)) : Lib.HoldsBytes w x bs := by
  obtain ⟨b, cap, t, rfl, rfl, h3, h4, h5, h6, h7, _⟩ := h
  refine ⟨some ⟨b, 0, none⟩, cap, by rw [← Lib.size_eq], fun e => (by cases e), fun a ha i y hy => ?_⟩
  cases ha
  have hi : i < t.size := by
    have := (List.getElem?_eq_some_iff.1 hy).1
    rw [← Lib.size_eq] at this; exact this
  rw [Addr.add_mid, h7 i hi]
  have := byte_at t i hi
  rw [this] at hy
  cases hy; rfl
theorem nodup_lt : ∀ (n : Nat) (l : List Nat), l.Nodup → (∀ x ∈ l, x < n) → l.length ≤ n
  | 0, l, _, h => by
    cases l with
    | nil => exact Nat.le_refl _
    | cons a r => exact absurd (h a (by simp)) (Nat.not_lt_zero _)
  | n + 1, l, hn, h => by
    by_cases hm : n ∈ l
    · have h1 := nodup_lt n (l.erase n) (hn.erase n) (fun x hx => by
        have h2 := h x (List.mem_of_mem_erase hx)
        have h3 : x ≠ n := fun e => by subst e; exact hn.not_mem_erase hx
        omega)
      rw [List.length_erase_of_mem hm] at h1
      omega
    · have := nodup_lt n l hn (fun x hx => by
        have h2 := h x hx
        have h3 : x ≠ n := fun e => by subst e; exact hm hx
        omega)
      omega
theorem nodup256 {l : List UInt8} (h : l.Nodup) : l.length ≤ 256 := by
  have := nodup_lt 256 (l.map UInt8.toNat) (List.Pairwise.map UInt8.toNat (fun a b hab e => hab (UInt8.toNat_inj.1 e)) h) (fun x hx => by
    obtain ⟨c, _, rfl⟩ := List.mem_map.1 hx
    exact c.toNat_lt)
  rwa [List.length_map] at this
theorem nd_take {L : List UInt8} (h : L.Nodup) {k : Nat} {x : UInt8} (hx : L[k]? = some x) : x ∉ L.take k := fun hm => by
  obtain ⟨j, hj, e⟩ := List.getElem_of_mem hm
  rw [List.length_take] at hj
  obtain ⟨hk, ek⟩ := List.getElem?_eq_some_iff.1 hx
  rw [List.getElem_take] at e
  have := (List.getElem_inj h).1 (e.trans ek.symm)
  omega
theorem prod_hi (a b : Nat) (ha : a ≤ 2097152) (hb : b ≤ 2097152) : (a : Int) * ((b : Int) - 1) ≤ 4398046511104 := by
  have h1 : a * b ≤ 2097152 * 2097152 := Nat.mul_le_mul ha hb
  have h2 : (a : Int) * ((b : Int) - 1) = ((a * b : Nat) : Int) - a := by rw [Int.mul_sub, Int.mul_one]; rfl
  omega
theorem prod_lo (a b : Nat) (ha : a ≤ 2097152) (hb : b ≤ 2097152) : -4398046511104 ≤ (a : Int) * ((b : Int) - 1) := by
  have h2 : (a : Int) * ((b : Int) - 1) = ((a * b : Nat) : Int) - a := by rw [Int.mul_sub, Int.mul_one]; rfl
  omega
theorem u8InfoM : (Try.prog.info? 5).map (fun i => (i.zero, i.size, i.bytes)) = some (some (.int .u8 0), 1, 1) := by kernel_rfl
theorem u8Size (w : World) : (Go.sizeOf 5).run Try.prog w = .ok 1 w := by
  obtain ⟨i0, hi, hz⟩ := Option.map_eq_some_iff.1 (show (Try.prog.info? 5).map (·.size) = some 1 by kernel_rfl)
  simp [sizeOf, typeInfo, hi, hz]
theorem u8One : (Try.prog.info? 5).map (·.size) = some 1 := by kernel_rfl

theorem buf_start (w : World) (n N : Nat) : Lib.Buf w ((w.drewN n).alloc (.cells (madeCells #[.int .u8 0] N) 5)) w.heap.size N [] := by
  have hsz : (madeCells #[.int .u8 0] N).size = N := by simp [madeCells]
  have b := Lib.Buf.start (w.drewN n) (madeCells #[.int .u8 0] N) 5 N 0 (by omega)
  exact ⟨(bDr _ w n).trans b.below, b.there, b.free, b.holds, b.fits⟩
set_option maxRecDepth 100000 in
set_option maxHeartbeats 16000000 in
theorem strRep (B base : Nat) (f : UInt8 → Option Bs) (Lb : List UInt8) (s : ByteArray) (w : World) (h : StrAt w base B f Lb) (hs : s.size ≤ 2097152) (ht : ∀ c, (gOf f c).length ≤ 2097152) :
    Calls Try.prog 96 #[at0 B, .string s] w (Rpd (s.data.toList.flatMap (gOf f)) w) := by
  obtain ⟨N, hN⟩ : ∃ N, N = (s.data.toList.flatMap (gOf f)).length := ⟨_, rfl⟩
  have hN42 : N ≤ 4398046511104 := by
    have := fm_len (gOf f) 2097152 ht s.data.toList
    have h2 := Lib.size_eq s
    have : s.data.toList.length * 2097152 ≤ 2097152 * 2097152 := Nat.mul_le_mul_right _ (by omega)
    omega
  have H := Lib.hid h
  have HN := Lib.hid hN
  have HT := Lib.hid ht
  obtain ⟨v, cv, hov, _⟩ := h.r
  have hBl : B < w.heap.size := World.block_lt_of_cell? _ _ cv
  have hLs : StrsAt w v (Lb.map fun b => ⟨#[b]⟩) := StrsAt.of_own (base := base) (e := 9) (by rw [List.length_map, List.map_map]; exact hov)
  obtain ⟨A, cA, rfl⟩ := hLs.shape
  rw [List.length_map] at cv
  obtain ⟨_, _, hcl⟩ := hLs.cells
  have HOV := Lib.hid hcl
  have hL256 : Lb.length ≤ 256 := nodup256 h.nd
  have HCV := Lib.hid cv
  have hmk := run_make_row' (P := Try.prog) 41 5 (.int .u8 0) 1 Try.underlying41 u8InfoM rfl .i64 .i64 N (by omega) (by omega)
  have hsl : ∀ (W : World) (j : Nat), j ≤ N → (Instr.slice 41 (.slice (some ⟨w.heap.size, 0, none⟩) N N) (some (.int .i64 (j : Int))) none none).run Try.prog W = .ok (Lib.tailV w.heap.size N j) W := fun W j hj => Lib.run_slice_tailV W 41 5 Try.underlying41 u8Size _ _ _ hj
  clear h hN ht hov hLs hcl
  go_enter Try.func96, Try.ntmps96
  by_cases hpath : Lb.length * 8 ≤ s.size
  · go_wp2_with fail
    go_loopw [5, 6, 32] (fun nv av iv wr => ∃ (n k M : Nat) (e : Bool), k ≤ Lb.length ∧ iv = .int .i64 k ∧ nv = .int .i64 M ∧ av = .bool e ∧ M ≤ 4398046511104 ∧ Hid (M = (s.data.toList.flatMap (exch (gOf f) (Lb.take k))).length) ∧ Hid (e = false → ∀ (j : Nat) (b : UInt8), j < k → Lb[j]? = some b → s.data.toList.count b = 0) ∧ wr = w.drewN n) (fun _ _ iv _ => Lb.length - (RowKit.intOf iv).toNat)
    case atStart => exact ⟨0, 0, s.size, false, Nat.zero_le _, rfl, rfl, rfl, by omega, Lib.hid (by rw [List.take_zero, exch_nil, ← Lib.size_eq]), Lib.hid (fun _ j _ hj => absurd hj (Nat.not_lt_zero _)), rfl⟩
    case round =>
      obtain ⟨n, k, M, e, hk, rfl, rfl, rfl, hM, HM, HE, rfl⟩ := hrel
      by_cases hlt : k < Lb.length
      · obtain ⟨x, hx⟩ : ∃ x, Lb[k]? = some x := ⟨_, List.getElem?_eq_getElem hlt⟩
        have HX := Lib.hid hx
        obtain ⟨G, o, eA, hGl, c0⟩ := HOV.out k ⟨#[x]⟩ (by rw [List.getElem?_map, hx]; rfl)
        subst eA
        have hx256 := x.toNat_lt
        obtain ⟨xv, cx, hrv⟩ := H.out.c x
        have hxm : x ∈ Lb := List.mem_of_getElem? hx
        have hfx := (H.out.mem x).1 hxm
        obtain ⟨bs, hf⟩ := Option.ne_none_iff_exists'.1 hfx
        rw [hf] at hrv
        have hg : gOf f x = bs := by unfold gOf; rw [hf]; rfl
        obtain ⟨b, cap, t, rfl, h2, h3, _⟩ := hrv
        have hbl : bs.length = t.size := by rw [← h2, ← Lib.size_eq]
        have hts : t.size ≤ 2097152 := by have := HT.out x; rw [hg, hbl] at this; exact this
        have hcs : s.data.toList.count x ≤ s.size := by rw [Lib.size_eq]; exact List.count_le_length
        have hstep : ((s.data.toList.flatMap (exch (gOf f) (Lb.take (k + 1)))).length : Int) = M + (s.data.toList.count x : Nat) * ((t.size : Int) - 1) := by
          rw [HM.out]
          have := exch_len (gOf f) (Lb.take k) x (nd_take H.out.nd hx) s.data.toList
          rw [hg, hbl] at this
          rw [← this]
          congr 2
          congr 1
          funext c
          exact exch_perm (gOf f) (fun c => by rw [List.take_add_one, hx]; simp [or_comm]) c
        have hnext := fm_len (exch (gOf f) (Lb.take (k + 1))) 2097152 (fun c => by unfold exch; split; exact HT.out c; exact Nat.le_of_ble_eq_true rfl) s.data.toList
        have hn2 : s.data.toList.length * 2097152 ≤ 2097152 * 2097152 := Nat.mul_le_mul_right _ (by have := Lib.size_eq s; omega)
        obtain ⟨M', hM'⟩ : ∃ M', M' = (s.data.toList.flatMap (exch (gOf f) (Lb.take (k + 1)))).length := ⟨_, rfl⟩
        rw [← hM'] at hstep hnext
        have HM2 := Lib.hid hM'
        have w5 : ∀ W : World, (Instr.index 9 (.string ⟨#[x]⟩) (.int .i64 0)).run Try.prog W = .ok (.int .u8 x.toNat) W := idx_run ⟨#[x]⟩ 0 0 rfl (Nat.lt_succ_self 0)
        have hcnt := fun (W : World) => countB s ⟨#[x]⟩ x W (by omega) rfl
        have HCN := Lib.hid hcnt
        generalize hcx : s.data.toList.count x = cx at hstep hcs HCN
        have HCX := Lib.hid hcx
        clear hcnt hM' hxm hfx hf hg h2 h3 hx hcx
        by_cases hz : cx = 0
        · have hzi : (((cx : Nat) : Int) != 0) = false := by rw [hz]; rfl
          have HZ := Lib.hid hz
          have hMM : M' = M := by rw [hz] at hstep; simp at hstep; omega
          have HMM := Lib.hid hMM
          clear hz hMM
          go_wp2_with (go_at_call 98; (with_reducible refine (HCN.out _).mono ?_); rintro e1 w1 ⟨rfl, rfl⟩)
          go_roundw
          case rel =>
            refine ⟨n, k + 1, M, e, by omega, by go_num, rfl, rfl, hM, Lib.hid (HMM.out ▸ HM2.out), Lib.hid ?_, rfl⟩
            intro he j b hj hb
            by_cases ej : j = k
            · subst ej
              rw [HX.out] at hb
              cases hb
              rw [HCX.out, HZ.out]
            · exact HE.out he j b (by omega) hb
          case measure => simp [RowKit.intOf]; omega
        · have hzi : (((cx : Nat) : Int) != 0) = true := by rw [bne_iff_ne]; omega
          clear hz
          have hp1 : -4398046511104 ≤ (cx : Int) * ((t.size : Int) - 1) := prod_lo cx t.size (by omega) hts
          have hp2 : (cx : Int) * ((t.size : Int) - 1) ≤ 4398046511104 := prod_hi cx t.size (by omega) hts
          have hM2 : M' ≤ 4398046511104 := by omega
          clear hn2 hnext
          go_wp2_with (go_at_call 98; (with_reducible refine (HCN.out _).mono ?_); rintro e1 w1 ⟨rfl, rfl⟩)
          go_region
          go_wp2_with fail
          go_roundw
          case rel =>
            exact ⟨n + 1, k + 1, M', true, by omega, by go_num, by rw [hstep], rfl, hM2, HM2, Lib.hid (fun e => by cases e), rfl⟩
          case measure => simp [RowKit.intOf]; omega
      · have hge : ¬ ((k : Int) < (Lb.length : Int)) := by omega
        have hexc : ∀ c, exch (gOf f) Lb c = gOf f c := fun c => by
          unfold exch
          by_cases hc : c ∈ Lb
          · rw [if_pos hc]
          · rw [if_neg hc]
            have : f c = none := Classical.byContradiction fun h => hc ((H.out.mem c).2 h)
            unfold gOf; rw [this]; rfl
        have hMN : N = M := by
          have h1 := HM.out
          rw [List.take_of_length_le (by omega), show exch (gOf f) Lb = gOf f from funext hexc, ← HN.out] at h1
          exact h1.symm
        subst hMN
        cases e with
        | false =>
          have hout : (s.data.toList.flatMap (gOf f)) = s.data.toList := flatMap_same (fun c hc => by
            rw [← hexc c]
            unfold exch
            by_cases hm : c ∈ Lb
            · obtain ⟨j, hj, ej⟩ := List.getElem_of_mem hm
              have h1 := HE.out rfl j c (by omega) (by rw [List.getElem?_eq_getElem hj, ej])
              have h2 := List.count_pos_iff.2 hc
              omega
            · rw [if_neg hm])
          have HO := Lib.hid hout
          clear hout hexc
          go_wp2_with fail
          go_ret
          exact ⟨by rw [HO.out]; rfl, bDr _ w n⟩
        | true =>
          clear HM HE hexc
          go_wp2_with fail
          have HS0 : Hid (Lib.Buf w ((w.drewN n).alloc (.cells (madeCells #[.int .u8 0] N) 5)) w.heap.size N []) := Lib.hid (buf_start w n N)
          clear hmk
          generalize (w.drewN n).alloc (.cells (madeCells #[.int .u8 0] N) 5) = W0 at HS0 ⊢
          go_loopw [13, 14] (fun jv iv wr => ∃ k : Nat, k ≤ s.size ∧ iv = .int .i64 k ∧ jv = .int .i64 (((s.data.toList.take k).flatMap (gOf f)).length : Nat) ∧ Hid (Lib.Buf w wr w.heap.size N ((s.data.toList.take k).flatMap (gOf f)))) (fun _ iv _ => s.size - (RowKit.intOf iv).toNat)
          case atStart => exact ⟨0, Nat.zero_le _, rfl, rfl, HS0⟩
          case round =>
            clear HS0
            obtain ⟨k, hk, rfl, rfl, HBf⟩ := hrel
            by_cases hlt : k < s.size
            · have hb256 := (s[k]).toNat_lt
              obtain ⟨x, cx0, hrv⟩ := H.out.c s[k]
              have cx := (HBf.out.below.cell (p := ⟨B, (s[k]).toNat, none⟩) hBl).trans cx0
              have hle := fm_le (gOf f) s.data.toList (k + 1)
              rw [← HN.out, fm_take (gOf f) s k hlt, List.length_append] at hle
              have HF1 := Lib.hid (fm_take (gOf f) s k hlt)
              generalize hacc : (s.data.toList.take k).flatMap (gOf f) = acc at HBf hle HF1 ⊢
              cases hf : f s[k] with
              | none =>
                rw [hf] at hrv
                have hxe : x = .slice none 0 0 := hrv
                subst hxe
                have hg : gOf f s[k] = [s[k]] := by unfold gOf; rw [hf]; rfl
                rw [hg] at hle HF1
                have hlt2 : acc.length < N := hle
                obtain ⟨u, cu⟩ := Option.isSome_iff_exists.1 (HBf.out.there _ hlt2)
                have fu := HBf.out.free _ hlt2
                clear hf hrv hle hg hacc cx0
                go_wp2_with fail
                go_roundw
                case rel => exact ⟨k + 1, by omega, by go_num, by rw [HF1.out, List.length_append]; go_num, Lib.hid (by rw [HF1.out]; exact Buf_push HBf.out _ hlt2)⟩
                case measure => simp [RowKit.intOf]; omega
              | some bs =>
                rw [hf] at hrv
                have hg : gOf f s[k] = bs := by unfold gOf; rw [hf]; rfl
                rw [hg] at hle HF1
                have hv := rv_holds hrv
                obtain ⟨b, cap, t, rfl, h2, h3, _⟩ := hrv
                have hbl : bs.length = t.size := by rw [← h2, ← Lib.size_eq]
                have hac : acc.length ≤ N := by omega
                have hsl2 := fun W => hsl W acc.length hac
                obtain ⟨wr', hcp, hbf'⟩ := Lib.copy_part (P := Try.prog) w wr.drew w.heap.size N acc bs _ 41 3 5 Try.underlying41 u8One (Nat.le_refl _) ⟨HBf.out.below.drew, HBf.out.there, HBf.out.free, HBf.out.holds, HBf.out.fits⟩ hv hle
                rw [hbl] at hcp
                have HBF2 := Lib.hid hbf'
                clear hf hv hg hacc cx0 hbf' h2
                go_wp2_with fail
                go_region
                go_wp2_with fail
                go_roundw
                case rel => exact ⟨k + 1, by omega, by go_num, by rw [HF1.out, List.length_append, hbl]; go_num, Lib.hid (by rw [HF1.out]; exact HBF2.out)⟩
                case measure => simp [RowKit.intOf]; omega
            · have hge : ¬ ((k : Int) < (s.size : Int)) := by omega
              have hb := HBf.out
              rw [List.take_of_length_le (by have := Lib.size_eq s; omega)] at hb
              have hcv := Buf_conv hb HN.out.symm
              have HBl := Lib.hid hb.below
              clear hb HBf
              go_wp2_with fail
              go_ret
              exact ⟨rfl, HBl.out⟩
  · go_wp2_with fail
    go_loopw [5, 6, 10] (fun nv av iv wr => ∃ (n k M : Nat) (e : Bool), k ≤ s.size ∧ iv = .int .i64 k ∧ nv = .int .i64 M ∧ av = .bool e ∧ M ≤ 8796093022208 ∧ Hid (M + k = ((s.data.toList.take k).flatMap (gOf f)).length + s.size) ∧ Hid (e = false → ∀ j (h : j < s.size), j < k → f s[j] = none) ∧ wr = w.drewN n) (fun _ _ iv _ => s.size - (RowKit.intOf iv).toNat)
    case atStart => exact ⟨0, 0, s.size, false, Nat.zero_le _, rfl, rfl, rfl, by omega, Lib.hid (by simp), Lib.hid (fun _ j _ hj => absurd hj (Nat.not_lt_zero _)), rfl⟩
    case round =>
      obtain ⟨n, k, M, e, hk, rfl, rfl, rfl, hM, HM, HE, rfl⟩ := hrel
      by_cases hlt : k < s.size
      · have hb256 := (s[k]).toNat_lt
        obtain ⟨x, cx, hrv⟩ := H.out.c s[k]
        have HRV := Lib.hid hrv
        cases hf : f s[k] with
        | none =>
          rw [hf] at hrv
          have hxe : x = .slice none 0 0 := hrv
          subst hxe
          have HF := Lib.hid hf
          clear hf hrv
          go_wp2_with fail
          go_roundw
          case rel =>
            have e1 := fm_take (gOf f) s k hlt
            have e2 : gOf f s[k] = [s[k]] := by unfold gOf; rw [HF.out]; rfl
            refine ⟨n, k + 1, M, e, by omega, by go_num, rfl, rfl, hM, Lib.hid ?_, Lib.hid ?_, rfl⟩
            · rw [e1, e2, List.length_append, ← Nat.add_assoc, HM.out]
              simp; omega
            · intro he j hj hjk
              by_cases ej : j = k
              · subst ej; exact HF.out
              · exact HE.out he j hj (by omega)
          case measure => simp [RowKit.intOf]; omega
        | some bs =>
          rw [hf] at hrv
          obtain ⟨b, cap, t, rfl, h2, h3, _⟩ := hrv
          have e1 := fm_take (gOf f) s k hlt
          have e2 : gOf f s[k] = bs := by unfold gOf; rw [hf]; rfl
          have hnew : M + t.size + k = ((s.data.toList.take (k + 1)).flatMap (gOf f)).length + s.size := by
            have := HM.out
            rw [e1, e2, List.length_append, ← h2, ← Lib.size_eq]; omega
          have hle := fm_le (gOf f) s.data.toList (k + 1)
          rw [← HN.out] at hle
          have hle0 := HM.out
          have hts : t.size ≤ 2097152 := by have := HT.out s[k]; rw [e2, ← h2, ← Lib.size_eq] at this; exact this
          have HNEW := Lib.hid hnew
          have hM2 : M + t.size ≤ 8796093022209 := by omega
          have hM1 : 1 ≤ M := by omega
          clear e1 e2 hf hnew hle hle0 h2 h3
          go_wp2_with fail
          go_roundw
          case rel =>
            exact ⟨n, k + 1, M + t.size - 1, true, by omega, by go_num, by first | rfl | (congr 1; omega), rfl, by omega, Lib.hid (by have := HNEW.out; omega), Lib.hid (fun e => by cases e), rfl⟩
          case measure => simp [RowKit.intOf]; omega
      · have hge : ¬ ((k : Int) < (s.size : Int)) := by omega
        have hMN : N = M := by
          have := HM.out
          rw [List.take_of_length_le (by have := Lib.size_eq s; omega), ← HN.out] at this
          omega
        subst hMN
        cases e with
        | false =>
          have hout : (s.data.toList.flatMap (gOf f)) = s.data.toList := flatMap_same (fun c hc => by
            obtain ⟨j, hj, e⟩ := List.getElem_of_mem hc
            have hj' : j < s.size := by simpa using hj
            have e2 : s[j] = c := by
              have := byte_at s j hj'
              rw [List.getElem?_eq_getElem hj, e] at this
              exact (Option.some.inj this).symm
            have := HE.out rfl j hj' (by omega)
            rw [e2] at this
            unfold gOf; rw [this]; rfl)
          have HO := Lib.hid hout
          clear hout
          go_wp2_with fail
          go_ret
          exact ⟨by rw [HO.out]; rfl, bDr _ w n⟩
        | true =>
          clear HM HE
          go_wp2_with fail
          have HS0 : Hid (Lib.Buf w ((w.drewN n).alloc (.cells (madeCells #[.int .u8 0] N) 5)) w.heap.size N []) := Lib.hid (buf_start w n N)
          clear hmk
          generalize (w.drewN n).alloc (.cells (madeCells #[.int .u8 0] N) 5) = W0 at HS0 ⊢
          go_loopw [13, 14] (fun jv iv wr => ∃ k : Nat, k ≤ s.size ∧ iv = .int .i64 k ∧ jv = .int .i64 (((s.data.toList.take k).flatMap (gOf f)).length : Nat) ∧ Hid (Lib.Buf w wr w.heap.size N ((s.data.toList.take k).flatMap (gOf f)))) (fun _ iv _ => s.size - (RowKit.intOf iv).toNat)
          case atStart => exact ⟨0, Nat.zero_le _, rfl, rfl, HS0⟩
          case round =>
            clear HS0
            obtain ⟨k, hk, rfl, rfl, HBf⟩ := hrel
            by_cases hlt : k < s.size
            · have hb256 := (s[k]).toNat_lt
              obtain ⟨x, cx0, hrv⟩ := H.out.c s[k]
              have cx := (HBf.out.below.cell (p := ⟨B, (s[k]).toNat, none⟩) hBl).trans cx0
              have hle := fm_le (gOf f) s.data.toList (k + 1)
              rw [← HN.out, fm_take (gOf f) s k hlt, List.length_append] at hle
              have HF1 := Lib.hid (fm_take (gOf f) s k hlt)
              generalize hacc : (s.data.toList.take k).flatMap (gOf f) = acc at HBf hle HF1 ⊢
              cases hf : f s[k] with
              | none =>
                rw [hf] at hrv
                have hxe : x = .slice none 0 0 := hrv
                subst hxe
                have hg : gOf f s[k] = [s[k]] := by unfold gOf; rw [hf]; rfl
                rw [hg] at hle HF1
                have hlt2 : acc.length < N := hle
                obtain ⟨u, cu⟩ := Option.isSome_iff_exists.1 (HBf.out.there _ hlt2)
                have fu := HBf.out.free _ hlt2
                clear hf hrv hle hg hacc cx0
                go_wp2_with fail
                go_roundw
                case rel => exact ⟨k + 1, by omega, by go_num, by rw [HF1.out, List.length_append]; go_num, Lib.hid (by rw [HF1.out]; exact Buf_push HBf.out _ hlt2)⟩
                case measure => simp [RowKit.intOf]; omega
              | some bs =>
                rw [hf] at hrv
                have hg : gOf f s[k] = bs := by unfold gOf; rw [hf]; rfl
                rw [hg] at hle HF1
                have hv := rv_holds hrv
                obtain ⟨b, cap, t, rfl, h2, h3, _⟩ := hrv
                have hbl : bs.length = t.size := by rw [← h2, ← Lib.size_eq]
                have hac : acc.length ≤ N := by omega
                have hsl2 := fun W => hsl W acc.length hac
                obtain ⟨wr', hcp, hbf'⟩ := Lib.copy_part (P := Try.prog) w wr.drew w.heap.size N acc bs _ 41 3 5 Try.underlying41 u8One (Nat.le_refl _) ⟨HBf.out.below.drew, HBf.out.there, HBf.out.free, HBf.out.holds, HBf.out.fits⟩ hv hle
                rw [hbl] at hcp
                have HBF2 := Lib.hid hbf'
                clear hf hv hg hacc cx0 hbf' h2
                go_wp2_with fail
                go_region
                go_wp2_with fail
                go_roundw
                case rel => exact ⟨k + 1, by omega, by go_num, by rw [HF1.out, List.length_append, hbl]; go_num, Lib.hid (by rw [HF1.out]; exact HBF2.out)⟩
                case measure => simp [RowKit.intOf]; omega
            · have hge : ¬ ((k : Int) < (s.size : Int)) := by omega
              have hb := HBf.out
              rw [List.take_of_length_le (by have := Lib.size_eq s; omega)] at hb
              have hcv := Buf_conv hb HN.out.symm
              have HBl := Lib.hid hb.below
              clear hb HBf
              go_wp2_with fail
              go_ret
              exact ⟨rfl, HBl.out⟩
end Go.Proofs.Ytnigbgablginnaa

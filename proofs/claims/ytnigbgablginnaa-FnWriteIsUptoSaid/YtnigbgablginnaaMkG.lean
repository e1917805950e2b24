/- makeGenericReplacer: the walk. -/
import Derived.Test.YtnigbgablginnaaMkL
set_option linter.unusedVariables false
namespace Go.Proofs.Ytnigbgablginnaa
open Go.RowKit Go.Lib

/-- What a generic replacer of some pairs is: its trie and its mapping. -/
structure GenOk (w : World) (g base : Nat) (qs : List BB) (L : Nat) (m : UInt8 → Nat) (N : Nat) (T : Tr) : Prop where
  root : T.root = some g
  tab : T.isTab = true
  lies : Lies w m N base T
  rep : RepAt w g N m
  holds : Holds (T.get m) qs qs.length L
  inj : Inj m N
  N256 : N ≤ 256
  m255 : ∀ c, m c ≤ 255
  mN : ∀ c, m c ≤ N
theorem GenOk.below {w w' : World} {g base : Nat} {qs : List BB} {L : Nat} {m : UInt8 → Nat} {N : Nat} {T : Tr} (h : GenOk w g base qs L m N T) (hb : Below w.heap.size w w') : GenOk w' g base qs L m N T :=
  ⟨h.root, h.tab, h.lies.same hb.size (fun b hb' => hb.block b (h.lies.lt b hb').2), h.rep.block (hb.block g h.rep.lt), h.holds, h.inj, h.N256, h.m255, h.mN⟩

def GenMade (xs : List ByteArray) (qs : List BB) (w : World) (e : Ending) (w' : World) : Prop := ∃ g m N T, e = .returned (at0 g) ∧ GenOk w' g w.heap.size qs xs.length m N T ∧ Below w.heap.size w w'

/-- The pairs of a list of texts. -/
def PairsOf (xs : List ByteArray) (qs : List BB) : Prop := xs.length = 2 * qs.length ∧ ∀ k q, qs[k]? = some q → xs[2 * k]? = some q.1 ∧ xs[2 * k + 1]? = some q.2

theorem isTab_of {T : Tr} {g : Nat} (h : T.isTab = true) (hr : T.root = some g) : ∃ v p tb ch, T = .tab g v p tb ch := by
  cases T with
  | tab a v p tb ch => cases hr; exact ⟨v, p, tb, ch, rfl⟩
  | nil => cases h
  | leaf a v p => cases h
  | pre a v p k n => cases h
/-- The trie under way. -/
structure TG (w : World) (g base : Nat) (qs : List BB) (k L : Nat) (m : UInt8 → Nat) (N : Nat) (T : Tr) : Prop where
  root : T.root = some g
  tab : T.isTab = true
  lies : Lies w m N base T
  rep : RepAt w g N m
  holds : Holds (T.get m) qs k L
theorem TG.add {w w' : World} {g base : Nat} {qs : List BB} {k L : Nat} {m : UInt8 → Nat} {N : Nat} {T : Tr} {q : BB} (h : TG w g base qs k L m N T) (hq : qs[k]? = some q) (hL : 2 * qs.length ≤ L) {pr : Nat} (hpr : pr = L - 2 * k)
    (ha : Added w m N base T q.1 q.2 pr w') (hb : base ≤ w.heap.size) : (∃ T', TG w' g base qs (k + 1) L m N T') ∧ Below base w w' := by
  obtain ⟨T', hw, hg, ht⟩ := ha
  subst hpr
  refine ⟨⟨T', hw.root.trans h.root, ht h.tab, hw.lies, hw.rep (fun b hb hr e => hr (e ▸ h.root)) h.rep.lt h.rep, ?_⟩, hw.below h.lies hb⟩
  rw [hg]
  exact h.holds.succ hq hL
theorem TG.drewN {w : World} {g base : Nat} {qs : List BB} {k L : Nat} {m : UInt8 → Nat} {N : Nat} {T : Tr} (h : TG w g base qs k L m N T) (n : Nat) : TG (w.drewN n) g base qs k L m N T := ⟨h.root, h.tab, h.lies.drewN n, h.rep.drewN n, h.holds⟩
theorem gen_start {w : World} {g N base : Nat} {f : Nat → Nat} (qs : List BB) (L : Nat) (h : GenAt w g (.slice none 0 0) N (mapC f)) (hb : base ≤ g) :
    TG ((w.setCell ⟨g, 4, none⟩ (.slice (some ⟨w.heap.size, 0, none⟩) N N)).alloc (tabObj N)) g base qs 0 L (fun c => mapC f c.toNat) N (.tab g ByteArray.empty 0 w.heap.size (fun _ => .nil)) := by
  have hz : (w.setCell ⟨g, 4, none⟩ (.slice (some ⟨w.heap.size, 0, none⟩) N N)).heap.size = w.heap.size := by simp
  have hgl := h.node.lt
  have h2 := (h.setTbl (.slice (some ⟨w.heap.size, 0, none⟩) N N)).alloc (tabObj N)
  refine ⟨rfl, rfl, ⟨hb, h2.node, by omega, ?_, by omega, fun i hi => ?_, fun o => ?_, fun _ _ => rfl, fun _ => ⟨id, id⟩, fun _ _ _ _ hb => hb.elim, fun _ => trivial⟩, ⟨h2.sz, fun c => h2.mp c.toNat c.toNat_lt⟩, ?_⟩
  · show _ < (Array.push _ _).size
    rw [Array.size_push, hz]; omega
  · have := made_cell (w.setCell ⟨g, 4, none⟩ (.slice (some ⟨w.heap.size, 0, none⟩) N N)) N i hi
    rw [hz] at this; exact this
  · have := made_free (w.setCell ⟨g, 4, none⟩ (.slice (some ⟨w.heap.size, 0, none⟩) N N)) N o
    rw [hz] at this; exact this
  · have : (Tr.tab g ByteArray.empty 0 w.heap.size (fun _ => Tr.nil)).get (fun c => mapC f c.toNat) = fun _ => (ByteArray.empty, 0) := by
      funext x
      cases x <;> simp [Tr.get]
    rw [this]
    exact Holds.zero qs L

set_option maxRecDepth 100000 in
set_option maxHeartbeats 4000000 in
theorem makeGeneric (xs : List ByteArray) (qs : List BB) (v : Value) (w : World) (hp : PairsOf xs qs) (hv : StrsAt w v xs) (hx : xs.length ≤ 2147483647) (hs : ∀ x ∈ xs, x.size ≤ 140737488355328) :
    Calls Try.prog 48 #[v] w (GenMade xs qs w) := by
  obtain ⟨A, c, rfl, hc, hcells⟩ := hv
  have hlen := hp.1
  have HP := Lib.hid hp
  have HC : Hid (∀ i u, xs[i]? = some u → ∃ G o, A = some ⟨G, o, none⟩ ∧ G < w.heap.size ∧ w.cell? ⟨G, o + i, none⟩ = some (.string u)) := Lib.hid (fun i u hu => by
    have hne : xs ≠ [] := fun e => by rw [e] at hu; simp at hu
    obtain ⟨G, o, e, hg, hcell⟩ := hcells hne
    exact ⟨G, o, e, hg, hcell i u hu⟩)
  have HS := Lib.hid hs
  generalize hn : xs.length = n at hx hc hlen
  have HNx := Lib.hid hn
  have HL := Lib.hid hlen
  clear hp hcells hs hn hlen
  obtain ⟨g, hg⟩ : ∃ g, g = w.heap.size := ⟨_, rfl⟩
  have HG0 := Lib.hid (gen_made w)
  have HB0 := Lib.hid ((Below.refl w.heap.size w).alloc (Nat.le_refl _) (.cells Try.zeroCells80 80))
  go_enter Try.func48, Try.ntmps48
  go_wp2_with fail
  rw [← hg] at HG0 ⊢
  have HGs := Lib.hid hg
  clear hg
  go_loopw [4] (fun iv wr => ∃ (i k : Nat), i ≤ n ∧ iv = .int .i64 i ∧ Hid (i = 2 * k) ∧ Hid (GenAt wr g (.slice none 0 0) 0 (usedC (obytes qs k))) ∧ Hid (Below w.heap.size w wr)) (fun iv _ => n - (RowKit.intOf iv).toNat)
  case atStart => exact ⟨0, 0, Nat.zero_le _, rfl, Lib.hid rfl, HG0, HB0⟩
  case round =>
    clear HG0 HB0
    obtain ⟨i, k, hin, rfl, HI, HG, HB⟩ := hrel
    by_cases hlt : i < n
    · obtain ⟨q, hq⟩ : ∃ q, qs[k]? = some q := ⟨_, List.getElem?_eq_getElem (by have := HI.out; have := HL.out; omega)⟩
      have hxi : xs[i]? = some q.1 := by rw [HI.out]; exact (HP.out.2 k q hq).1
      obtain ⟨G, o, rfl, hGl, hcell⟩ := HC.out i q.1 hxi
      have hks := HS.out q.1 (List.mem_of_getElem? hxi)
      have hi2 : i + 2 ≤ n := by have := HI.out; have := HL.out; have := (List.getElem?_eq_some_iff.1 hq).1; omega
      have c0 : wr.cell? ⟨G, o + i, none⟩ = some (.string q.1) := (HB.out.cell (p := ⟨G, o + i, none⟩) hGl).trans hcell
      have HQ := Lib.hid hq
      have hltz : (i : Int) < (n : Int) := by omega
      clear hq hxi hcell
      obtain ⟨key, hkey⟩ : ∃ key, key = q.1 := ⟨_, rfl⟩
      rw [← hkey] at c0 hks
      have HK := Lib.hid hkey
      clear hkey
      go_wp2_with fail
      clear c0
      obtain ⟨wo, hwo⟩ : ∃ wo : World, wo = wr := ⟨_, rfl⟩
      rw [← hwo] at HG HB ⊢
      clear hwo
      go_loopw [6] (fun jv wr => ∃ j : Nat, j ≤ key.size ∧ jv = .int .i64 j ∧ Hid (GenAt wr g (.slice none 0 0) 0 (usedC (obytes qs k ++ key.data.toList.take j))) ∧ Hid (Below w.heap.size w wr)) (fun jv _ => key.size - (RowKit.intOf jv).toNat)
      case atStart => exact ⟨0, Nat.zero_le _, rfl, Lib.hid (by simpa using HG.out), HB⟩
      case round =>
        clear HG HB
        obtain ⟨j, hj, rfl, HG, HB⟩ := hrel
        by_cases hjl : j < key.size
        · have w5 := idx_run key (j : Int) j rfl hjl
          rw [← bt_at key j hjl] at w5
          have hbj := bt_get key j hjl
          generalize bt key j = x at w5 hbj
          have hx256 := x.toNat_lt
          have cc := HG.out.mp x.toNat hx256
          have ff := HG.out.node.nf (6 + x.toNat)
          have HBj := Lib.hid hbj
          clear hbj
          go_wp2_with fail
          go_region
          clear w5
          go_wp2_with fail
          go_roundw
          case rel =>
            refine ⟨j + 1, by omega, by go_num, Lib.hid (GenAt.drew ((HG.out.setMap x.toNat 1 hx256).congr (fun c hc => ?_))), Lib.hid ?_⟩
            · rw [List.take_add_one, HBj.out, ← List.append_assoc]
              exact (usedC_snoc _ x c).symm
            · exact (HB.out.setCell (by rw [HGs.out]; exact Nat.le_refl _) _).drew
          case measure => simp [RowKit.intOf]; omega
        · obtain rfl : j = key.size := by omega
          have HG' : Hid (GenAt wr g (.slice none 0 0) 0 (usedC (obytes qs (k + 1)))) := Lib.hid (by
            rw [obytes_succ HQ.out, ← HK.out]
            have := HG.out
            rwa [List.take_of_length_le (by simp)] at this)
          clear HG
          go_wp2_with fail
          go_roundw
          case rel => exact ⟨i + 2, k + 1, hi2, by go_num, Lib.hid (by have := HI.out; omega), HG', HB⟩
          case measure => simp [RowKit.intOf]; omega
    · obtain rfl : n = i := by omega
      have HG1 : Hid (GenAt wr g (.slice none 0 0) 0 (usedC (obytes qs qs.length))) := Lib.hid (by
        have := HG.out
        rwa [show k = qs.length by have := HI.out; have := HL.out; omega] at this)
      have hf01 := usedC_le (obytes qs qs.length)
      have HF01 := Lib.hid hf01
      clear HG hf01
      obtain ⟨f, hf⟩ : ∃ f, f = usedC (obytes qs qs.length) := ⟨_, rfl⟩
      rw [← hf] at HG1 HF01
      have HF := Lib.hid hf
      clear hf
      have hr := HG1.out.range
      have hi : (Try.prog.info? 78).map (·.size) = some (mapCells f).length := by rw [mapCells_len]; kernel_rfl
      have HR := Lib.hid hr
      have HII := Lib.hid hi
      clear hr hi
      go_wp2_with (refine wpList_load_mid rfl _ _ rfl g 6 rfl (mapCells f) _ HR.out Try.underlying78 rfl HII.out ?_)
      go_loopw [41] (fun iv wr => ∃ j : Nat, j ≤ 256 ∧ iv = .int .i64 j ∧ Hid (GenAt wr g (.slice none 0 0) (cumC f j) f) ∧ Hid (Below w.heap.size w wr)) (fun iv _ => 256 - (RowKit.intOf iv).toNat)
      case atStart => exact ⟨0, Nat.zero_le _, rfl, HG1, HB⟩
      case round =>
        clear HG1 HB HR
        obtain ⟨j, hj, rfl, HG, HB⟩ := hrel
        by_cases hjl : j < 256
        · have hix := run_index_u8 (mapCells f) j _ (mapCells_at f j hjl) hjl
          have hfj := HF01.out j
          have hcl := cumC_le HF01.out j
          have c5 := HG.out.sz
          have f5 := HG.out.node.nf 5
          have HE : Hid (((cumC f j + f j : Nat) : Int) = (cumC f j : Int) + (f j : Int)) := Lib.hid (by omega)
          have HC1 : Hid (cumC f (j + 1) = cumC f j + f j) := Lib.hid rfl
          generalize f j = y at hix hfj HE HC1
          have hy0 : (0 : Int) ≤ (y : Int) := by omega
          have hy1 : (y : Int) ≤ 1 := by omega
          clear hfj
          go_wp2_with fail
          go_roundw
          case rel =>
            refine ⟨j + 1, by omega, by go_num, Lib.hid ?_, Lib.hid (HB.out.setCell (by rw [HGs.out]; exact Nat.le_refl _) _)⟩
            rw [HC1.out]
            have := HG.out.setSz (cumC f j + y)
            rwa [HE.out] at this
          case measure => simp [RowKit.intOf]; omega
        · obtain rfl : j = 256 := by omega
          have HG1 : Hid (GenAt wr g (.slice none 0 0) (cumC f 256) (fun c => if c < 0 then mapC f c else f c)) := Lib.hid (HG.out.congr (fun c hc => rfl))
          have HR := Lib.hid HG.out.range
          have hN256 := cumC_le HF01.out 256
          obtain ⟨N, hN⟩ : ∃ N, N = cumC f 256 := ⟨_, rfl⟩
          rw [← hN] at hN256 HG1
          have HNc := Lib.hid hN
          clear HG hN
          go_wp2_with (refine wpList_load_mid rfl _ _ rfl g 6 rfl (mapCells f) _ HR.out Try.underlying78 rfl HII.out ?_)
          go_loopw [58, 9] (fun iv sv wr => ∃ (j : Nat) (zi : Int), j ≤ 256 ∧ iv = .int .i64 j ∧ sv = .int .u8 zi ∧ Hid (j < 256 → zi = (cumC f j : Nat)) ∧ Hid (GenAt wr g (.slice none 0 0) N (fun c => if c < j then mapC f c else f c)) ∧ Hid (Below w.heap.size w wr)) (fun iv _ _ => 256 - (RowKit.intOf iv).toNat)
          case atStart => exact ⟨0, 0, Nat.zero_le _, rfl, rfl, Lib.hid (fun _ => rfl), HG1, HB⟩
          case round =>
            clear HG1 HB HR
            obtain ⟨j, zi, hj, rfl, rfl, HZ, HG, HB⟩ := hrel
            by_cases hjl : j < 256
            · obtain ⟨z, hz⟩ : ∃ z : Nat, z = cumC f j := ⟨_, rfl⟩
              obtain rfl : zi = (z : Int) := (HZ.out hjl).trans (by rw [hz])
              have HZ := Lib.hid hz
              clear hz
              have hix := run_index_u8 (mapCells f) j _ (mapCells_at f j hjl) hjl
              have c5 := HG.out.sz
              have cj := HG.out.mp j hjl
              have fj := HG.out.node.nf (6 + j)
              have hst : ∀ x : Nat, (∀ c, c = j → x = mapC f c) → GenAt (wr.setCell ⟨g, 6 + j, none⟩ (.int .u8 x)) g (.slice none 0 0) N (fun c => if c < j + 1 then mapC f c else f c) := fun x hx => (HG.out.setMap j x hjl).congr (fun c hc => by
                by_cases e : c = j
                · rw [if_pos e, if_pos (by omega), hx c e]
                · rw [if_neg e]
                  by_cases h' : c < j
                  · rw [if_pos h', if_pos (by omega)]
                  · rw [if_neg h', if_neg (by omega)])
              have HST := Lib.hid hst
              clear hst
              rcases HF01.out j with h0 | h1
              · have hNr := cumC_room HF01.out h0 hjl
                have HMJ : Hid (mapC f j = N) := Lib.hid ((mapC_free h0).trans HNc.out.symm)
                have hN255 : (N : Int) ≤ 255 := by have := HNc.out; omega
                have hwu : IntKind.u8.wrap (N : Int) = (N : Int) := IntWalk.u8_in _ (by omega)
                have HC1 : Hid (cumC f (j + 1) = cumC f j) := Lib.hid (by rw [cumC, h0]; rfl)
                rw [h0] at hix
                clear h0 hNr
                go_wp2_with fail
                go_region
                go_wp2_with fail
                go_roundw
                case rel =>
                  refine ⟨j + 1, z, by omega, by go_num, rfl, Lib.hid (fun h => by rw [HC1.out, HZ.out]), Lib.hid ?_, Lib.hid ((HB.out.setCell (by rw [HGs.out]; exact Nat.le_refl _) _).drew)⟩
                  exact (HST.out N (fun c e => by rw [e, HMJ.out])).drew
                case measure => simp [RowKit.intOf]; omega
              · have HMJ : Hid (mapC f j = z) := Lib.hid (by unfold mapC; rw [if_neg (by omega)]; exact HZ.out.symm)
                have hzj : z ≤ j := by have := HZ.out; have := cumC_le HF01.out j; omega
                have HC1 : Hid (cumC f (j + 1) = z + 1) := Lib.hid (by rw [cumC, h1, ← HZ.out])
                rw [h1] at hix
                clear h1
                by_cases hj255 : j < 255
                · have hz255 : z + 1 ≤ 255 := by omega
                  go_wp2_with fail
                  go_roundw
                  case rel =>
                    refine ⟨j + 1, ((z + 1 : Nat) : Int), by omega, by go_num, by go_num, Lib.hid (fun h => by rw [HC1.out]), Lib.hid ?_, Lib.hid (HB.out.setCell (by rw [HGs.out]; exact Nat.le_refl _) _)⟩
                    exact HST.out z (fun c e => by rw [e, HMJ.out])
                  case measure => simp [RowKit.intOf]; omega
                · have hz255 : (z : Int) ≤ 255 := by omega
                  go_wp2_with fail
                  go_roundw
                  case rel =>
                    refine ⟨j + 1, _, by omega, by go_num, rfl, Lib.hid (fun h => absurd h (by omega)), Lib.hid ?_, Lib.hid (HB.out.setCell (by rw [HGs.out]; exact Nat.le_refl _) _)⟩
                    exact HST.out z (fun c e => by rw [e, HMJ.out])
                  case measure => simp [RowKit.intOf]; omega
            · obtain rfl : j = 256 := by omega
              have HG2 : Hid (GenAt wr g (.slice none 0 0) N (mapC f)) := Lib.hid (HG.out.congr (fun c hc => by rw [if_pos hc]))
              have hmk := run_make_row' (P := Try.prog) 75 74 (.pointer none) 8 Try.underlying75 ptrInfo rfl .i64 .i64 N (by omega) (by omega)
              have HT : Hid (TG ((wr.setCell ⟨g, 4, none⟩ (.slice (some ⟨wr.heap.size, 0, none⟩) N N)).alloc (tabObj N)) g w.heap.size qs 0 n (fun c => mapC f c.toNat) N (.tab g ByteArray.empty 0 wr.heap.size (fun _ => .nil))) := Lib.hid (gen_start qs n HG2.out (by rw [HGs.out]; exact Nat.le_refl _))
              have HB2 : Hid (Below w.heap.size w ((wr.setCell ⟨g, 4, none⟩ (.slice (some ⟨wr.heap.size, 0, none⟩) N N)).alloc (tabObj N))) := Lib.hid ((HB.out.setCell (by rw [HGs.out]; exact Nat.le_refl _) _).alloc (by have := HB.out.size; simpa using this) _)
              have c5 := HG2.out.sz
              have c4 := HG2.out.node.c4
              have f4 := HG2.out.node.nf 4
              have hgl := HG2.out.node.lt
              clear HG HB
              go_wp2_with fail
              obtain ⟨W, hW⟩ : ∃ W, W = ((wr.setCell ⟨g, 4, none⟩ (.slice (some ⟨wr.heap.size, 0, none⟩) N N)).alloc (tabObj N)) := ⟨_, rfl⟩
              rw [← hW] at HT HB2 ⊢
              clear hW HG2 c5 c4 f4 hgl hmk
              go_loopw [12] (fun iv wr => ∃ (i k : Nat) (T : Tr), i ≤ n ∧ iv = .int .i64 i ∧ Hid (i = 2 * k) ∧ Hid (TG wr g w.heap.size qs k n (fun c => mapC f c.toNat) N T) ∧ Hid (Below w.heap.size w wr)) (fun iv _ => n - (RowKit.intOf iv).toNat)
              case atStart => exact ⟨0, 0, _, Nat.zero_le _, rfl, Lib.hid rfl, HT, HB2⟩
              case round =>
                clear HT HB2
                obtain ⟨i, k, T, hin, rfl, HI, HT, HB⟩ := hrel
                by_cases hlt : i < n
                · obtain ⟨q, hq⟩ : ∃ q, qs[k]? = some q := ⟨_, List.getElem?_eq_getElem (by have := HI.out; have := HL.out; omega)⟩
                  have hx0 : xs[i]? = some q.1 := by rw [HI.out]; exact (HP.out.2 k q hq).1
                  have hx1 : xs[i + 1]? = some q.2 := by rw [HI.out]; exact (HP.out.2 k q hq).2
                  obtain ⟨G, o, rfl, hGl, hcell0⟩ := HC.out i q.1 hx0
                  obtain ⟨G', o', eG, hGl', hcell1⟩ := HC.out (i + 1) q.2 hx1
                  obtain ⟨rfl, rfl⟩ : G = G' ∧ o = o' := by cases eG; exact ⟨rfl, rfl⟩
                  clear eG
                  have hks := HS.out q.1 (List.mem_of_getElem? hx0)
                  have hi2 : i + 2 ≤ n := by have := HI.out; have := HL.out; have := (List.getElem?_eq_some_iff.1 hq).1; omega
                  have c0 : wr.cell? ⟨G, o + i, none⟩ = some (.string q.1) := (HB.out.cell (p := ⟨G, o + i, none⟩) hGl).trans hcell0
                  have c1 : wr.cell? ⟨G, o + (i + 1), none⟩ = some (.string q.2) := (HB.out.cell (p := ⟨G, o + (i + 1), none⟩) hGl').trans hcell1
                  have hmem : ∀ c ∈ q.1.data.toList, mapC f c.toNat < N := fun c hc => by
                    rw [HNc.out]
                    refine mapC_used HF01.out c.toNat_lt ?_
                    rw [HF.out]
                    exact usedC_mem (obytes_mem hq (List.getElem?_eq_some_iff.1 hq).1 hc)
                  have hcall : Calls Try.prog 56 #[at0 g, .string q.1, .string q.2, .int .i64 ((n : Int) - i), at0 g] wr.drew (RetS (Added (wr.drewN 1) (fun c => mapC f c.toNat) N w.heap.size T q.1 q.2 (n - 2 * k))) := by
                    have hT := HT.out.drewN 1
                    have := add_any (fun c => mapC f c.toNat) N w.heap.size g (n - 2 * k) q.2 hN256 (by rw [HNc.out]; exact mapC_inj HF01.out) q.1.size q.1 T g (wr.drewN 1) (Nat.le_refl _) hks hT.root hT.lies hT.rep (fun _ => isTab_of hT.tab hT.root) hmem HB.out.size
                    unfold AddAt at this
                    rw [show (((n - 2 * k : Nat) : Int)) = (n : Int) - i by have := HI.out; omega] at this
                    exact this
                  have HQ := Lib.hid hq
                  have HCall := Lib.hid hcall
                  have hltz : (i : Int) < (n : Int) := by omega
                  have w1 : IntKind.i64.wrap ((i : Int) + 1) = (i : Int) + 1 := IntWalk.i64_in _ (by omega)
                  have w2 : ((i : Int) + 1).toNat = i + 1 := by omega
                  have w3 : IntKind.i64.wrap ((n : Int) - (i : Int)) = (n : Int) - (i : Int) := IntWalk.i64_in _ (by omega)
                  have w4 : (0 : Int) ≤ (i : Int) + 1 := by omega
                  have w5 : (i : Int) + 1 < (n : Int) := by omega
                  clear hq hx0 hx1 hcell0 hcell1 hmem hcall
                  go_wp2_with fail
                  go_region_with (go_at_call 56; (with_reducible refine HCall.out.mono ?_); rintro e w' ⟨rfl, hR⟩)
                  all_goals
                    clear w1 w2 w3 w4 w5 c0 c1
                    have hTW := (HT.out.drewN 1).add HQ.out (by have := HL.out; omega) rfl hR HB.out.size
                    obtain ⟨⟨T', hT'⟩, hB'⟩ := hTW
                    have HT' := Lib.hid hT'
                    have HB' : Hid (Below w.heap.size w w') := Lib.hid ((belowDrewN HB.out 1).trans hB')
                    clear hT' hB' hR
                    go_wp2_with fail
                    go_roundw
                    case rel =>
                      have hI2 : Hid (i + 2 = 2 * (k + 1)) := Lib.hid (by have := HI.out; omega)
                      first
                        | exact ⟨i + 2, k + 1, T', hi2, by go_num, hI2, HT', HB'⟩
                        | ((repeat apply Exists.intro); exact ⟨⟨i + 2, k + 1, T', hi2, by go_num, hI2, HT', HB'⟩, rfl⟩)
                    case measure => simp [RowKit.intOf]; omega
                · obtain rfl : n = i := by omega
                  go_wp2_with fail
                  go_ret
                  have hk : k = qs.length := by have := HI.out; have := HL.out; omega
                  refine ⟨g, fun c => mapC f c.toNat, N, T, rfl, ⟨HT.out.root, HT.out.tab, HT.out.lies, HT.out.rep, ?_, by rw [HNc.out]; exact mapC_inj HF01.out, hN256, fun c => mapC_le HF01.out c.toNat_lt, fun c => ?_⟩, HB.out⟩
                  · have := HT.out.holds
                    rw [hk] at this
                    rw [HNx.out]; exact this
                  · rcases HF01.out c.toNat with h0 | h1
                    · rw [mapC_free h0, HNc.out]; exact Nat.le_refl _
                    · have := mapC_used HF01.out c.toNat_lt h1
                      rw [HNc.out]; exact Nat.le_of_lt this
end Go.Proofs.Ytnigbgablginnaa

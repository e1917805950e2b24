/- The finder of Boyer and Moore: its tables, its search. -/
import Derived.Test.YtnigbgablginnaaRSp
import Derived.Test.YtnigbgablginnaaBm
import Derived.Deep.LoopGhost
import Derived.Deep.QuietTactic
import Derived.Deep.OwnRows
import Derived.BigQuiet
import Derived.Laws.NewBlocks
set_option linter.unusedVariables false
namespace Go.Proofs.Ytnigbgablginnaa
open Go.RowKit Go.Lib

theorem intInfo : (Try.prog.info? 3).map (fun i => (i.zero, i.size, i.bytes)) = some (some (.int .i64 0), 1, 8) := by kernel_rfl

/-- A finder in memory: block F its fields, block G the table of suffixes. -/
structure FinAt (w : World) (F G : Nat) (p : ByteArray) (B S : Nat → Nat) : Prop where
  c0 : w.cell? ⟨F, 0, none⟩ = some (.string p)
  cb : ∀ c, c < 256 → w.cell? ⟨F, 1 + c, none⟩ = some (.int .i64 (B c))
  cs : w.cell? ⟨F, 257, none⟩ = some (.slice (some ⟨G, 0, none⟩) p.size p.size)
  ct : ∀ j, j < p.size → w.cell? ⟨G, j, none⟩ = some (.int .i64 (S j))
  nF : ∀ o, w.frozen? ⟨F, o, none⟩ = false
  nG : ∀ o, w.frozen? ⟨G, o, none⟩ = false
  ne : F ≠ G
  lF : F < w.heap.size
  lG : G < w.heap.size
theorem FinAt.below {w w' : World} {F G : Nat} {p : ByteArray} {B S : Nat → Nat} (h : FinAt w F G p B S) (hb : Below w.heap.size w w') : FinAt w' F G p B S :=
  ⟨cell_later hb h.c0, fun c hc => cell_later hb (h.cb c hc), cell_later hb h.cs, fun j hj => cell_later hb (h.ct j hj), fun o => (hb.frozen (p := ⟨F, o, none⟩) h.lF).trans (h.nF o), fun o => (hb.frozen (p := ⟨G, o, none⟩) h.lG).trans (h.nG o), h.ne, Nat.lt_of_lt_of_le h.lF hb.size, Nat.lt_of_lt_of_le h.lG hb.size⟩
theorem FinAt.drew {w : World} {F G : Nat} {p : ByteArray} {B S : Nat → Nat} (h : FinAt w F G p B S) (n : Nat) : FinAt (w.drewN n) F G p B S := ⟨h.c0, h.cb, h.cs, h.ct, h.nF, h.nG, h.ne, h.lF, h.lG⟩

theorem FinAt.setB {w : World} {F G : Nat} {p : ByteArray} {B S : Nat → Nat} (h : FinAt w F G p B S) (k v : Nat) (hk : k < 256) : FinAt (w.setCell ⟨F, 1 + k, none⟩ (.int .i64 v)) F G p (fun c => if c = k then v else B c) S := by
  have hg : G ≠ F := fun e => h.ne e.symm
  refine ⟨?_, fun c hc => ?_, ?_, fun j hj => ?_, fun o => ?_, fun o => ?_, h.ne, by simpa using h.lF, by simpa using h.lG⟩
  · rw [World.cell?_setCell_other _ _ _ _ (by simp)]; exact h.c0
  · by_cases e : c = k
    · subst e
      rw [if_pos rfl]
      exact World.cell?_setCell_same _ _ _ (by rw [h.cb c hc])
    · rw [if_neg e, World.cell?_setCell_other _ _ _ _ (fun e2 => e (by have := congrArg Addr.off e2; simp at this; omega))]; exact h.cb c hc
  · rw [World.cell?_setCell_other _ _ _ _ (fun e2 => by have := congrArg Addr.off e2; simp at this; omega)]; exact h.cs
  · rw [World.cell?_setCell_other _ _ _ _ (fun e2 => hg (congrArg Addr.block e2).symm)]; exact h.ct j hj
  · rw [World.frozen?_setCell]; exact h.nF o
  · rw [World.frozen?_setCell]; exact h.nG o
theorem FinAt.setS {w : World} {F G : Nat} {p : ByteArray} {B S : Nat → Nat} (h : FinAt w F G p B S) (k v : Nat) (hk : k < p.size) : FinAt (w.setCell ⟨G, k, none⟩ (.int .i64 v)) F G p B (fun c => if c = k then v else S c) := by
  have hg := h.ne
  refine ⟨?_, fun c hc => ?_, ?_, fun j hj => ?_, fun o => ?_, fun o => ?_, h.ne, by simpa using h.lF, by simpa using h.lG⟩
  · rw [World.cell?_setCell_other _ _ _ _ (fun e2 => hg (congrArg Addr.block e2).symm)]; exact h.c0
  · rw [World.cell?_setCell_other _ _ _ _ (fun e2 => hg (congrArg Addr.block e2).symm)]; exact h.cb c hc
  · rw [World.cell?_setCell_other _ _ _ _ (fun e2 => hg (congrArg Addr.block e2).symm)]; exact h.cs
  · by_cases e : j = k
    · subst e
      rw [if_pos rfl]
      exact World.cell?_setCell_same _ _ _ (by rw [h.ct j hj])
    · rw [if_neg e, World.cell?_setCell_other _ _ _ _ (fun e2 => e (by have := congrArg Addr.off e2; simp at this; omega))]; exact h.ct j hj
  · rw [World.frozen?_setCell]; exact h.nF o
  · rw [World.frozen?_setCell]; exact h.nG o

theorem FinAt.congr {w : World} {F G : Nat} {p : ByteArray} {B B' S S' : Nat → Nat} (h : FinAt w F G p B S) (hB : ∀ c, c < 256 → B c = B' c) (hS : ∀ j, j < p.size → S j = S' j) : FinAt w F G p B' S' :=
  ⟨h.c0, fun c hc => hB c hc ▸ h.cb c hc, h.cs, fun j hj => hS j hj ▸ h.ct j hj, h.nF, h.nG, h.ne, h.lF, h.lG⟩

theorem zero69 : Try.zeroCells97 = (#[Value.string ByteArray.empty] ++ Array.replicate 256 (Value.int .i64 0)).push (Value.slice none 0 0) := by kernel_rfl
theorem zero69_at (c : Nat) (hc : c < 256) : Try.zeroCells97[1 + c]? = some (.int .i64 0) := by
  rw [zero69, Array.getElem?_push]
  simp [Array.getElem?_append, show ¬ 1 + c = 257 by omega, hc]
theorem zero69_size : Try.zeroCells97.size = 258 := by rw [zero69]; simp
theorem fin_made (p : ByteArray) (w : World) : FinAt ((w.alloc (Obj.cells (madeCells #[Value.int IntKind.i64 0] p.size) 3)).alloc (Obj.cells ((Try.zeroCells97.setIfInBounds 0 (Value.string p)).setIfInBounds 257 (Value.slice (some { block := w.heap.size, off := 0 }) p.size p.size)) 97)) (w.heap.size + 1) w.heap.size p (fun _ => 0) (fun _ => 0) := by
  have hz := zero69_size
  refine ⟨?_, fun c hc => ?_, ?_, fun j hj => ?_, fun o => ?_, fun o => ?_, by omega, by simp, by simp; omega⟩
  · rw [World.cell?_alloc2_new]; simp [hz]
  · rw [World.cell?_alloc2_new, Array.getElem?_setIfInBounds_ne (by omega), Array.getElem?_setIfInBounds_ne (by omega), zero69_at c hc]; rfl
  · rw [World.cell?_alloc2_new]; simp [hz]
  · rw [World.cell?_alloc_past _ _ _ (by simp), World.cell?_alloc_at _ _ _ _ rfl, ← Array.getElem?_toList, toList_madeCells_one]
    simp [hj]
  · rw [World.frozen?_alloc_at _ _ _ _ (by simp)]
  · rw [World.frozen?_alloc_past _ _ _ (by simp), World.frozen?_alloc_at _ _ _ _ rfl]

theorem hasPrefix (s p : ByteArray) (w : World) (hs : s.size < 140737488355328) (hp : p.size < 140737488355328) :
    Calls Try.prog 64 #[.string s, .string p] w fun e w' => e = .returned (.bool (p.data.toList.isPrefixOf s.data.toList)) ∧ w = w' := by
  by_cases h : p.size ≤ s.size
  · have H : Hid (p.data.toList.isPrefixOf s.data.toList = ((s.extract 0 p.size).toList == p.toList)) := by
      have := occ_of_piece s p 0 (by omega)
      rw [Nat.zero_add] at this
      exact this
    go_enter Try.func64, Try.ntmps64
    go_wp2
    go_ret
    exact ⟨ret_bool H.out.symm, rfl⟩
  · have H : Hid (p.data.toList.isPrefixOf s.data.toList = false) := by
      show _ = _
      rw [Bool.eq_false_iff]
      intro e
      have := (List.isPrefixOf_iff_prefix.1 e).length_le
      simp at this
      omega
    go_enter Try.func64, Try.ntmps64
    go_wp2
    go_ret
    exact ⟨ret_bool H.out.symm, rfl⟩

theorem idx_run (s : ByteArray) (i : Int) (n : Nat) (hi : i = n) (hn : n < s.size) (W : World) : (Instr.index 9 (.string s) (.int .i64 i)).run Try.prog W = .ok (.int .u8 (s[n]'hn).toNat) W := by
  subst hi
  rw [run_index_string (h := Try.underlying9), dif_pos ⟨by omega, by omega⟩]
  simp
theorem belowDrewN {B : Nat} {a w : World} (h : Below B a w) (n : Nat) : Below B a (w.drewN n) := ⟨h.os, h.tape, h.output, h.size, h.block⟩

/-- So many bytes at both ends are the same. -/
def LcsP (a b : ByteArray) (L : Nat) : Prop := L ≤ a.size ∧ L ≤ b.size ∧ (∀ t, t < L → bt a (a.size - 1 - t) = bt b (b.size - 1 - t)) ∧ (L = a.size ∨ L = b.size ∨ bt a (a.size - 1 - L) ≠ bt b (b.size - 1 - L))
def SomeL (a b : ByteArray) (w : World) (e : Ending) (w' : World) : Prop := ∃ L n : Nat, e = .returned (.int .i64 L) ∧ LcsP a b L ∧ w' = w.drewN n
def EqEnd (a b : ByteArray) (k : Nat) : Prop := ∀ t, t < k → bt a (a.size - 1 - t) = bt b (b.size - 1 - t)
set_option maxHeartbeats 1000000 in
theorem commonSuffix (a b : ByteArray) (w : World) (hs : a.size < 140737488355328) (hp : b.size < 140737488355328) :
    Calls Try.prog 66 #[.string a, .string b] w (SomeL a b w) := by
  go_enter Try.func66, Try.ntmps66
  go_wp2
  go_loopw [4] (fun i wr => ∃ n k : Nat, wr = w.drewN n ∧ k ≤ a.size ∧ k ≤ b.size ∧ i = .int .i64 k ∧ Hid (EqEnd a b k)) (fun i _ => a.size - (RowKit.intOf i).toNat)
  case atStart => exact ⟨0, 0, rfl, Nat.zero_le _, Nat.zero_le _, rfl, fun t h => absurd h (Nat.not_lt_zero _)⟩
  case round =>
    obtain ⟨n, k, rfl, hka, hkb, rfl, he⟩ := hrel
    by_cases ha : k < a.size
    · by_cases hb : k < b.size
      · have e1 : ((a.size : Int) - 1 - k) = ((a.size - 1 - k : Nat) : Int) := by omega
        have e2 : ((b.size : Int) - 1 - k) = ((b.size - 1 - k : Nat) : Int) := by omega
        have i1 : a.size - 1 - k < a.size := by omega
        have i2 : b.size - 1 - k < b.size := by omega
        have b1 := bt_at a (a.size - 1 - k) i1
        have b2 := bt_at b (b.size - 1 - k) i2
        have w1 : IntKind.i64.wrap ((a.size : Int) - 1) = (a.size : Int) - 1 := IntWalk.i64_in _ (by omega)
        have w2 : IntKind.i64.wrap ((b.size : Int) - 1) = (b.size : Int) - 1 := IntWalk.i64_in _ (by omega)
        have w3 : IntKind.i64.wrap ((a.size : Int) - 1 - k) = (a.size : Int) - 1 - k := IntWalk.i64_in _ (by omega)
        have w4 : IntKind.i64.wrap ((b.size : Int) - 1 - k) = (b.size : Int) - 1 - k := IntWalk.i64_in _ (by omega)
        have w5 := idx_run a ((a.size : Int) - 1 - k) (a.size - 1 - k) (by omega) i1
        have w6 := idx_run b ((b.size : Int) - 1 - k) (b.size - 1 - k) (by omega) i2
        rw [← b1] at w5
        rw [← b2] at w6
        clear b1 b2 e1 e2
        generalize hx : bt a (a.size - 1 - k) = x at w5
        generalize hy : bt b (b.size - 1 - k) = y at w6
        have HX := Lib.hid hx
        have HY := Lib.hid hy
        clear hx hy
        by_cases heq : x = y
        · subst heq
          have hb0 : ((x.toNat : Int) != (x.toNat : Int)) = false := by simp
          go_wp2
          go_quiet (fail)
          clear w1 w2 w3 w4 w5 w6
          go_wp2
          go_roundw
          case rel => exact ⟨_, k + 1, rfl, by omega, by omega, by go_num, Lib.hid (fun t ht => by
            rcases Nat.lt_succ_iff_lt_or_eq.1 ht with h' | rfl
            · exact he.out t h'
            · rw [HX.out, HY.out])⟩
          case measure => simp [RowKit.intOf]; omega
        · have hb0 : ((x.toNat : Int) != (y.toNat : Int)) = true := by
            have : x.toNat ≠ y.toNat := fun e => heq (UInt8.toNat_inj.1 e)
            rw [bne_iff_ne]; omega
          have HE := Lib.hid heq
          clear heq
          go_wp2
          go_quiet (fail)
          clear w1 w2 w3 w4 w5 w6
          go_wp2
          go_ret
          exact ⟨k, _, rfl, ⟨hka, hkb, he.out, .inr (.inr (by rw [HX.out, HY.out]; exact HE.out))⟩, World.drewN_drewN _ _ _⟩
      · go_wp2
        go_ret
        exact ⟨k, _, rfl, ⟨hka, hkb, he.out, .inr (.inl (by omega))⟩, rfl⟩
    · go_wp2
      go_ret
      exact ⟨k, _, rfl, ⟨hka, hkb, he.out, .inl (by omega)⟩, rfl⟩
/-! ### the tables' plain side -/
theorem pre_iff (p : ByteArray) (k : Nat) (hk : k ≤ p.size) : (p.extract k p.size).data.toList.isPrefixOf p.data.toList = true ↔ isPre p k := by
  have hz : (p.extract k p.size).size = p.size - k := by rw [ByteArray.size_extract]; omega
  have hbt : ∀ t, t < p.size - k → bt (p.extract k p.size) t = bt p (k + t) := fun t ht => by
    unfold bt
    simp only [List.getD]
    rw [extract_data, List.getElem?_take, if_pos ht, List.getElem?_drop]
  by_cases h0 : k = p.size
  · subst h0
    refine ⟨fun _ => isPre_end p, fun _ => ?_⟩
    rw [List.isPrefixOf_iff_prefix]
    refine ⟨p.data.toList, ?_⟩
    rw [extract_data]; simp
  · have h1 : 0 < (p.extract k p.size).size := by omega
    have ho := occ_iff p (p.extract k p.size) 0 h1
    unfold occAt at ho
    rw [List.drop_zero] at ho
    rw [ho]
    constructor
    · rintro ⟨_, h⟩ q hq1 hq2
      have := h (q - k) (by omega)
      rw [hbt (q - k) (by omega), Nat.zero_add] at this
      rw [this]; congr 1; omega
    · intro h
      refine ⟨by omega, fun t ht => ?_⟩
      have := h (k + t) (by omega) (by omega)
      rw [hbt t (by omega), Nat.zero_add, ← this]; congr 1; omega
def FirstOk (p : ByteArray) (S : Nat → Nat) (k : Nat) : Prop := ∀ j, k ≤ j → j < p.size → ∃ lp, PreOk p j lp ∧ S j = lp + (p.size - 1) - j
theorem FirstOk.step {p : ByteArray} {S : Nat → Nat} {k lp : Nat} (h : FirstOk p S (k + 1)) (hl : PreOk p k lp) : FirstOk p (fun c => if c = k then lp + (p.size - 1) - k else S c) k := by
  intro j hj hjp
  dsimp only
  by_cases e : j = k
  · subst e; rw [if_pos rfl]; exact ⟨lp, hl, rfl⟩
  · rw [if_neg e]; exact h j (by omega) hjp
theorem FirstOk.good {p : ByteArray} {S : Nat → Nat} (h : FirstOk p S 0) : GoodOk p S 0 := by
  intro j hj
  obtain ⟨lp, hl, e⟩ := h j (Nat.zero_le _) hj
  have h1 := hl.1
  have h2 := hl.2.1
  rw [e]
  refine ⟨by omega, fun d hd hg hor => ?_⟩
  have := first_pass hl d hg (by omega)
  omega
theorem lcs_ok {p : ByteArray} {k L : Nat} (hk : k < p.size - 1) (h : LcsP p (p.extract 1 (k + 1)) L) : LcsOk p k L := by
  have hz : (p.extract 1 (k + 1)).size = k := by rw [ByteArray.size_extract]; omega
  have hbt : ∀ t, t < k → bt (p.extract 1 (k + 1)) t = bt p (1 + t) := fun t ht => by
    unfold bt
    simp only [List.getD]
    rw [extract_data, List.getElem?_take, if_pos (by omega), List.getElem?_drop]
  obtain ⟨h1, h2, h3, h4⟩ := h
  rw [hz] at h2 h3 h4
  refine ⟨h2, fun t ht => ?_, ?_⟩
  · have := h3 t ht
    rw [hbt _ (by omega), show 1 + (k - 1 - t) = k - t by omega] at this
    exact this.symm
  · rcases h4 with h4 | h4 | h4
    · omega
    · exact .inl h4
    · by_cases e : L = k
      · exact .inl e
      · right
        rw [hbt _ (by omega), show 1 + (k - 1 - L) = k - L by omega] at h4
        exact fun e2 => h4 e2.symm
theorem FinAt.drew1 {w : World} {F G : Nat} {p : ByteArray} {B S : Nat → Nat} (h : FinAt w F G p B S) : FinAt w.drew F G p B S := ⟨h.c0, h.cb, h.cs, h.ct, h.nF, h.nG, h.ne, h.lF, h.lG⟩

def FinMade (p : ByteArray) (w : World) (e : Ending) (w' : World) : Prop := ∃ (F G : Nat) (S : Nat → Nat), e = .returned (.pointer (some ⟨F, 0, none⟩)) ∧ FinAt w' F G p (bc p) S ∧ GoodOk p S (p.size - 1) ∧ w.heap.size ≤ F ∧ w.heap.size ≤ G ∧ Below w.heap.size w w'

set_option maxRecDepth 100000 in
set_option maxHeartbeats 1000000 in
theorem makeFinder (p : ByteArray) (w : World) (hp : p.size ≤ 2147483647) (h1 : 1 ≤ p.size) :
    Calls Try.prog 58 #[.string p] w (FinMade p w) := by
  have hmk := run_make_row' (P := Try.prog) 95 3 (.int .i64 0) 8 Try.underlying95 intInfo rfl .i64 .i64 p.size (by omega) (by omega)
  go_enter Try.func58, Try.ntmps58
  go_wp2_with fail
  clear hmk
  obtain ⟨F, hF⟩ : ∃ F, F = w.heap.size + 1 := ⟨_, rfl⟩
  obtain ⟨G, hG⟩ : ∃ G, G = w.heap.size := ⟨_, rfl⟩
  have hA : Hid (FinAt ((w.alloc (Obj.cells (madeCells #[Value.int IntKind.i64 0] p.size) 3)).alloc (Obj.cells ((Try.zeroCells97.setIfInBounds 0 (Value.string p)).setIfInBounds 257 (Value.slice (some { block := w.heap.size, off := 0 }) p.size p.size)) 97)) (w.heap.size + 1) w.heap.size p (fun _ => 0) (fun _ => 0)) := fin_made p w
  have hB : Hid (Below w.heap.size w ((w.alloc (Obj.cells (madeCells #[Value.int IntKind.i64 0] p.size) 3)).alloc (Obj.cells ((Try.zeroCells97.setIfInBounds 0 (Value.string p)).setIfInBounds 257 (Value.slice (some { block := w.heap.size, off := 0 }) p.size p.size)) 97))) := ((Below.refl _ w).alloc (Nat.le_refl _) _).alloc (by simp) _
  generalize hW : ((w.alloc (Obj.cells (madeCells #[Value.int IntKind.i64 0] p.size) 3)).alloc (Obj.cells ((Try.zeroCells97.setIfInBounds 0 (Value.string p)).setIfInBounds 257 (Value.slice (some { block := w.heap.size, off := 0 }) p.size p.size)) 97)) = W at hA hB ⊢
  clear hW
  rw [← hF, ← hG] at hA ⊢
  have HF := Lib.hid hF
  have HG := Lib.hid hG
  clear hF hG
  go_loopw [20, 5] (fun v _ wr => ∃ k : Nat, k ≤ 256 ∧ v = .int .i64 k ∧ Hid (FinAt wr F G p (fun c => if c < k then p.size else 0) (fun _ => 0)) ∧ Hid (Below w.heap.size w wr)) (fun v _ _ => 256 - (RowKit.intOf v).toNat)
  case atStart => exact ⟨0, Nat.zero_le _, rfl, hA, hB⟩
  case round =>
    obtain ⟨k, hk, rfl, HA, HB⟩ := hrel
    by_cases hlt : k < 256
    · have cc := HA.out.cb k hlt
      have fF := HA.out.nF (1 + k)
      go_wp2_with fail
      go_roundw
      case rel => exact ⟨k + 1, by omega, by go_num, Lib.hid ((HA.out.setB k p.size hlt).congr (fun c hc => by
        by_cases e : c = k
        · rw [if_pos e, if_pos (by omega)]
        · rw [if_neg e]; by_cases h' : c < k
          · rw [if_pos h', if_pos (by omega)]
          · rw [if_neg h', if_neg (by omega)]) (fun _ _ => rfl)), Lib.hid (HB.out.setCell (by rw [HF.out]; show w.heap.size ≤ w.heap.size + 1; omega) _)⟩
      case measure => simp [RowKit.intOf]; omega
    · obtain rfl : k = 256 := by omega
      have HA1 : Hid (FinAt wr F G p (fun c => bcTo p c 0) (fun _ => 0)) := Lib.hid (HA.out.congr (fun c hc => by rw [if_pos hc]; rfl) (fun _ _ => rfl))
      clear HA
      go_wp2_with fail
      go_loopw [6] (fun v wr => ∃ k : Nat, k ≤ p.size - 1 ∧ v = .int .i64 k ∧ Hid (FinAt wr F G p (fun c => bcTo p c k) (fun _ => 0)) ∧ Hid (Below w.heap.size w wr)) (fun v _ => p.size - 1 - (RowKit.intOf v).toNat)
      case atStart => exact ⟨0, Nat.zero_le _, rfl, HA1, HB⟩
      case round =>
        clear HA1 HB
        obtain ⟨k, hk, rfl, HA, HB⟩ := hrel
        by_cases hlt : k < p.size - 1
        · have hltz : (k : Int) < (p.size : Int) - 1 := by omega
          have hks : k < p.size := by omega
          have hb256 := (p[k]).toNat_lt
          have cc := HA.out.cb (p[k]).toNat hb256
          have fF := HA.out.nF (1 + (p[k]).toNat)
          go_wp2_with fail
          go_region
          go_wp2_with fail
          go_outline
          go_roundw
          case rel =>
            have hbk : (bt p k).toNat = (p[k]).toNat := by rw [bt_at p k hks]
            refine ⟨k + 1, by omega, by go_num, Lib.hid ?_, Lib.hid ?_⟩
            · rw [show (p.size : Int) - 1 - k = ((p.size - 1 - k : Nat) : Int) by omega]
              refine FinAt.drew1 ((HA.out.setB (p[k]).toNat (p.size - 1 - k) hb256).congr (fun c hc => ?_) (fun _ _ => rfl))
              show (if c = (p[k]).toNat then p.size - 1 - k else bcTo p c k) = bcTo p c (k + 1)
              rw [bcTo, hbk]
              by_cases e : c = (p[k]).toNat
              · rw [if_pos e, if_pos e.symm]
              · rw [if_neg e, if_neg (fun e2 => e e2.symm)]
            · exact Below.drew (HB.out.setCell (by rw [HF.out]; show w.heap.size ≤ w.heap.size + 1; omega) _)
          case measure => simp [RowKit.intOf]; omega
        · obtain rfl : k = p.size - 1 := by omega
          have hltz : ¬ (((p.size - 1 : Nat) : Int) < (p.size : Int) - 1) := by omega
          go_wp2_with fail
          go_loopw [7, 8] (fun lv v wr => ∃ (k lp : Nat) (S : Nat → Nat), k ≤ p.size ∧ lp ≤ p.size ∧ v = .int .i64 ((k : Int) - 1) ∧ lv = .int .i64 lp ∧ (k = p.size ∨ PreOk p k lp) ∧ Hid (FirstOk p S k) ∧ Hid (FinAt wr F G p (bc p) S) ∧ Hid (Below w.heap.size w wr)) (fun _ v _ => (RowKit.intOf v + 1).toNat)
          case atStart => exact ⟨p.size, p.size - 1, _, Nat.le_refl _, by omega, rfl, by rw [show ((p.size - 1 : Nat) : Int) = (p.size : Int) - 1 by omega], .inl rfl, fun j h1 h2 => by omega, HA, HB⟩
          case round =>
            clear HA HB
            obtain ⟨k, lp, S, hk, hlp, rfl, rfl, hpo, HFo, HA, HB⟩ := hrel
            cases k with
            | succ k =>
              have c1 : (0 : Int) ≤ ((k + 1 : Nat) : Int) - 1 := by omega
              have c2 : ((k + 1 : Nat) : Int) - 1 + 1 = ((k + 1 : Nat) : Int) := by omega
              have HP := pre_iff p (k + 1) hk
              have hks : k < p.size := by omega
              have hxs : (p.extract (k + 1) p.size).size < 140737488355328 := by rw [ByteArray.size_extract]; omega
              have cc := HA.out.ct k hks
              have fG := HA.out.nG k
              have cs := HA.out.cs
              by_cases hpre : isPre p (k + 1)
              · have hb := HP.2 hpre
                clear HP hpre
                have HB0 := Lib.hid hb
                clear hb
                go_wp2_with (go_at_call 64; refine (hasPrefix p (p.extract (k + 1) p.size) _ (by omega) hxs).mono ?_; rintro e w' ⟨rfl, rfl⟩; rw [HB0.out])
                go_roundw
                case rel =>
                  refine ⟨k, k + 1, fun c => if c = k then k + 1 + (p.size - 1) - k else S c, by omega, hk, by go_num, by first | rfl | go_num, .inr (PreOk.yes p k hks), Lib.hid (HFo.out.step (PreOk.yes p k hks)), Lib.hid ?_, Lib.hid (HB.out.setCell (by rw [HG.out]; exact Nat.le_refl _) _)⟩
                  have := HA.out.setS k (k + 1 + (p.size - 1) - k) hks
                  rw [show ((k + 1 + (p.size - 1) - k : Nat) : Int) = (k : Int) + 1 + ((p.size : Int) - 1) - k by omega] at this
                  simpa using this
                case measure => simp [RowKit.intOf]
              · have hpo' : PreOk p k lp := by
                  rcases hpo with h | h
                  · exact absurd (h ▸ isPre_end p) hpre
                  · exact h.no hpre
                have hb : (p.extract (k + 1) p.size).data.toList.isPrefixOf p.data.toList = false := by
                  rw [Bool.eq_false_iff]; exact fun e => hpre (HP.1 e)
                clear HP hpre
                have HB0 := Lib.hid hb
                clear hb
                go_wp2_with (go_at_call 64; refine (hasPrefix p (p.extract (k + 1) p.size) _ (by omega) hxs).mono ?_; rintro e w' ⟨rfl, rfl⟩; rw [HB0.out])
                go_roundw
                case rel =>
                  refine ⟨k, lp, fun c => if c = k then lp + (p.size - 1) - k else S c, by omega, hlp, by go_num, rfl, .inr hpo', Lib.hid (HFo.out.step hpo'), Lib.hid ?_, Lib.hid (HB.out.setCell (by rw [HG.out]; exact Nat.le_refl _) _)⟩
                  have := HA.out.setS k (lp + (p.size - 1) - k) hks
                  rw [show ((lp + (p.size - 1) - k : Nat) : Int) = (lp : Int) + ((p.size : Int) - 1) - k by have := hpo'.1; omega] at this
                  simpa using this
                case measure => simp [RowKit.intOf]
            | zero =>
              have HG0 := Lib.hid HFo.out.good
              clear hpo HFo
              rw [show (((0 : Nat) : Int) - 1) = -1 from rfl]
              go_wp2_with fail
              go_loopw [9] (fun v wr => ∃ (k : Nat) (S : Nat → Nat), k ≤ p.size - 1 ∧ v = .int .i64 k ∧ Hid (GoodOk p S k) ∧ Hid (FinAt wr F G p (bc p) S) ∧ Hid (Below w.heap.size w wr)) (fun v _ => p.size - 1 - (RowKit.intOf v).toNat)
              case atStart => exact ⟨0, S, Nat.zero_le _, rfl, HG0, HA, HB⟩
              case round =>
                clear HA HB HG0
                obtain ⟨k, S, hk, rfl, HGo, HA, HB⟩ := hrel
                by_cases hlt : k < p.size - 1
                · have hltz : (k : Int) < (p.size : Int) - 1 := by omega
                  have hxs : (p.extract 1 (k + 1)).size < 140737488355328 := by rw [ByteArray.size_extract]; omega
                  have c1 : (1 : Int) ≤ (k : Int) + 1 := by omega
                  have c2 : (k : Int) + 1 ≤ (p.size : Int) := by omega
                  have cs := HA.out.cs
                  go_wp2_with (go_at_call 66; refine (commonSuffix p (p.extract 1 (k + 1)) _ (by omega) hxs).mono ?_; rintro e w' ⟨L, q, rfl, hL, rfl⟩; have HL := Lib.hid (lcs_ok hlt hL); have hLk := HL.out.1; clear hL)
                  have i1 : k - L < p.size := by omega
                  have i2 : p.size - 1 - L < p.size := by omega
                  have b1 := bt_at p (k - L) i1
                  have b2 := bt_at p (p.size - 1 - L) i2
                  have w1 : IntKind.i64.wrap ((k : Int) - L) = (k : Int) - L := IntWalk.i64_in _ (by omega)
                  have w2 : IntKind.i64.wrap ((p.size : Int) - 1 - L) = (p.size : Int) - 1 - L := IntWalk.i64_in _ (by omega)
                  have w5 := idx_run p ((k : Int) - L) (k - L) (by omega) i1
                  have w6 := idx_run p ((p.size : Int) - 1 - L) (p.size - 1 - L) (by omega) i2
                  rw [← b1] at w5
                  rw [← b2] at w6
                  clear b1 b2
                  generalize hx : bt p (k - L) = x at w5
                  generalize hy : bt p (p.size - 1 - L) = y at w6
                  have HX := Lib.hid hx
                  have HY := Lib.hid hy
                  clear hx hy
                  by_cases heq : x = y
                  · subst heq
                    have hb0 : ((x.toNat : Int) != (x.toNat : Int)) = false := by simp
                    go_quiet (fail)
                    clear w1 w2 w5 w6
                    go_wp2_with fail
                    go_roundw
                    case rel => exact ⟨k + 1, S, by omega, by go_num, Lib.hid (good_keep HGo.out HL.out hlt (by rw [HX.out, HY.out])), Lib.hid (HA.out.drew _), Lib.hid (belowDrewN HB.out _)⟩
                    case measure => simp [RowKit.intOf]; omega
                  · have hb0 : ((x.toNat : Int) != (y.toNat : Int)) = true := by
                      have : x.toNat ≠ y.toNat := fun e => heq (UInt8.toNat_inj.1 e)
                      rw [bne_iff_ne]; omega
                    clear heq
                    go_quiet (fail)
                    clear w1 w2 w5 w6
                    generalize hW3 : World.drewN _ _ = W3
                    have HA3 : Hid (FinAt W3 F G p (bc p) S) := hW3 ▸ Lib.hid ((HA.out.drew _).drew _)
                    have HB3 : Hid (Below w.heap.size w W3) := hW3 ▸ Lib.hid (belowDrewN (belowDrewN HB.out _) _)
                    clear hW3 cs
                    have cs := HA3.out.cs
                    have cc := HA3.out.ct (p.size - 1 - L) i2
                    have fG := HA3.out.nG (p.size - 1 - L)
                    have c3 : (0 : Int) ≤ (p.size : Int) - 1 - L := by omega
                    have c4 : (p.size : Int) - 1 - L < (p.size : Int) := by omega
                    have c5 : ((p.size : Int) - 1 - L).toNat = p.size - 1 - L := by omega
                    go_wp2_with fail
                    go_roundw
                    case rel =>
                      refine ⟨k + 1, fun j => if j = p.size - 1 - L then L + (p.size - 1) - k else S j, by omega, by go_num, Lib.hid (good_set HGo.out HL.out hlt), Lib.hid ?_, Lib.hid (HB3.out.setCell (by rw [HG.out]; exact Nat.le_refl _) _)⟩
                      have := HA3.out.setS (p.size - 1 - L) (L + (p.size - 1) - k) i2
                      rw [show ((L + (p.size - 1) - k : Nat) : Int) = (L : Int) + ((p.size : Int) - 1) - k by omega] at this
                      simpa [c5] using this
                    case measure => simp [RowKit.intOf]; omega
                · obtain rfl : k = p.size - 1 := by omega
                  have hltz : ¬ (((p.size - 1 : Nat) : Int) < (p.size : Int) - 1) := by omega
                  go_wp2_with fail
                  go_ret
                  exact ⟨F, G, S, rfl, HA.out, HGo.out, by rw [HF.out]; omega, by rw [HG.out]; exact Nat.le_refl _, HB.out⟩
end Go.Proofs.Ytnigbgablginnaa

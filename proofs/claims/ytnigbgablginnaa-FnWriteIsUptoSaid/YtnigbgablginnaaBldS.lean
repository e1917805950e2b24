/- (*Replacer).build: bytes by texts; the whole (printed by mkBldS.py). -/
import Derived.Test.YtnigbgablginnaaBld
import Derived.Lib.ConvBytes
import Derived.Laws.BytesArg
set_option linter.unusedVariables false
namespace Go.Proofs.Ytnigbgablginnaa
open Go.RowKit Go.Lib

/-- The world behind '[]byte(s)', and the capacity. -/
def cvW2 (w : World) (s : ByteArray) : World := Lib.bytesWorld w 5 s
def cvN2 (w : World) (s : ByteArray) : Nat := grownCap w s.size 0 5
theorem cv_run2 (s : ByteArray) (W : World) : (convert 9 41 (.string s)).run Try.prog W = .ok (.slice (some ⟨W.heap.size, 0, none⟩) s.size (cvN2 W s)) (cvW2 W s) :=
  Lib.run_convert_string_bytes W 9 41 5 s Try.underlying9 Try.underlying41 Try.underlying5
theorem cv_size2 (s : ByteArray) (W : World) : (cvW2 W s).heap.size = W.heap.size + 1 := bytesWorld_size _ _ _
theorem cv_bytes2 (s : ByteArray) (W : World) : Lib.Bytes (cvW2 W s) W.heap.size 0 s := by
  intro i hi
  unfold cvW2
  rw [Nat.zero_add, bytesWorld_cell W 5 s i hi]
  have e : s.data.toList.getD i 0 = s[i] := by
    simp only [List.getD]
    rw [byte_at s i hi]; rfl
  rw [e]
theorem cv_block2 (s : ByteArray) (W : World) (b : Nat) (h : b < W.heap.size) : (cvW2 W s).heap[b]? = W.heap[b]? := bytesWorld_at_old W _ s b h
theorem cv_cell2 (s : ByteArray) (W : World) (b o : Nat) (h : b < W.heap.size) : (cvW2 W s).cell? ⟨b, o, none⟩ = W.cell? ⟨b, o, none⟩ := World.cell?_of_block (w := W) (cv_block2 s W b h)
theorem cv_frozen2 (s : ByteArray) (W : World) (b o : Nat) (h : b < W.heap.size) : (cvW2 W s).frozen? ⟨b, o, none⟩ = W.frozen? ⟨b, o, none⟩ := World.frozen?_of_block (w := W) (cv_block2 s W b h)
theorem cv_below2 (s : ByteArray) (W : World) : Below W.heap.size W (cvW2 W s) := ⟨rfl, rfl, rfl, by rw [cv_size2]; omega, fun k hk => cv_block2 s W k hk⟩
/-- 'string([]byte{c})' -/
theorem one_run (W : World) (x : UInt8) : (convert 41 9 (.slice (some ⟨W.heap.size, 0, none⟩) 1 1)).run Try.prog (W.alloc (.cells #[.int .u8 x.toNat] 5)) = .ok (.string ⟨#[x]⟩) (W.alloc (.cells #[.int .u8 x.toNat] 5)) := by
  rw [run_convert_bytes_arg _ 41 5 Try.underlying41 Try.underlying5 W.heap.size 0 1 1 [(x.toNat : Int)] rfl (fun i hi => by
    obtain rfl : i = 0 := by omega
    rw [cell_of_row _ _ _ _ _ _ (heap_alloc_new W _)]; rfl) 9 Try.underlying9]
  have : UInt8.ofNat ((x.toNat : Int)).toNat = x := by rw [Int.toNat_natCast]; exact UInt8.ofNat_toNat
  show Result.ok (Value.string ⟨#[UInt8.ofNat ((x.toNat : Int)).toNat]⟩) _ = _
  rw [this]
theorem cell_new_at (w : World) (n : Nat) (hn : n = w.heap.size) (x : Value) (t : TypeId) : ∀ j u, [x][j]? = some u → (w.alloc (.cells #[x] t)).cell? ((⟨n, 0, none⟩ : Addr).add j) = some u := by
  subst hn; exact cell_one_new w x t

theorem grownBy_set (W : World) (b o : Nat) (v : Value) : W.grownBy (W.setCell ⟨b, o, none⟩ v) (some b) := ⟨rfl, rfl, rfl, by simp, fun k _ hne => Below.heap_setCell _ _ _ _ (fun e => hne (by rw [e]))⟩
theorem own_shape {w : World} {base : Nat} {e : TypeId} {v : Value} {n : Nat} {xs : List Value} (h : w.ownsRow base e 1 v n xs) {g : Nat} (hg : v.ownBlock = some g) : ∃ m, w.shape? g = some (e, m) := by
  rcases h.2 with ⟨rfl, _⟩ | ⟨g', cap, cur, rfl, _, hgg, _⟩
  · cases hg
  · obtain rfl : g' = g := by simpa [Value.ownBlock] using hg
    exact ⟨cur.size, by unfold World.shape?; rw [hgg]⟩
theorem own_apart {w : World} {base : Nat} {v : Value} {n : Nat} {xs : List Value} (h : w.ownsRow base 9 1 v n xs) {b m : Nat} (hb : w.shape? b = some (5, m)) : v.ownBlock ≠ some b := fun e => by
  obtain ⟨k, hk⟩ := own_shape h e
  rw [hb] at hk
  have h2 : 5 = 9 := congrArg Prod.fst (Option.some.inj hk)
  exact absurd h2 (by decide)
theorem shape_set (w : World) (a : Addr) (v : Value) (b : Nat) : (w.setCell a v).shape? b = w.shape? b := by
  unfold World.shape? World.setCell
  simp only [Array.getElem?_modify]
  by_cases h : a.block = b
  · rw [if_pos h]
    cases hb : w.heap[b]? with
    | none => rfl
    | some ob => cases ob <;> simp <;> split <;> simp_all
  · rw [if_neg h]
theorem shape_sets (b0 : Nat) : ∀ (vs : List Value) (o : Nat) (w : World) (b : Nat), (w.setCells b0 o vs).shape? b = w.shape? b
  | [], _, _, _ => rfl
  | v :: r, o, w, b => by rw [World.setCells, shape_sets b0 r, shape_set]
/-- The cells of a replacer of bytes by texts. -/
structure StrC (w : World) (base B : Nat) (f : UInt8 → Option Bs) (L : List UInt8) : Prop where
  c : ∀ i : UInt8, ∃ x, w.cell? ⟨B, i.toNat, none⟩ = some x ∧ RvAt w base B x (f i)
  r : ∃ v, w.cell? ⟨B, 256, none⟩ = some v ∧ w.ownsRow base 9 1 v L.length (L.map fun b => .string ⟨#[b]⟩) ∧ v.ownBlock ≠ some B
  nf : ∀ o, w.frozen? ⟨B, o, none⟩ = false
  sh : ∃ m, w.shape? B = some (115, m)
theorem StrC.lt {w : World} {base B : Nat} {f : UInt8 → Option Bs} {L : List UInt8} (h : StrC w base B f L) : B < w.heap.size := by
  obtain ⟨x, hx, _⟩ := h.c 0
  exact World.block_lt_of_cell? _ _ hx
/-- A byte's text is laid. -/
theorem StrC.conv {W : World} {base B : Nat} {f : UInt8 → Option Bs} {L : List UInt8} (h : StrC W base B f L) (hb : base ≤ W.heap.size) (hbB : base ≤ B) (x : UInt8) (n : ByteArray) :
    StrC ((cvW2 W n).setCell ⟨B, x.toNat, none⟩ (.slice (some ⟨W.heap.size, 0, none⟩) n.size (cvN2 W n))) base B (fun c => if c = x then some n.data.toList else f c) L := by
  have hB := h.lt
  have hblk : ∀ b, b ≠ B → b < W.heap.size → ((cvW2 W n).setCell ⟨B, x.toNat, none⟩ (.slice (some ⟨W.heap.size, 0, none⟩) n.size (cvN2 W n))).heap[b]? = W.heap[b]? := fun b h1 h2 => (Below.heap_setCell _ _ _ _ h1).trans (cv_block2 n W b h2)
  have hsz : ((cvW2 W n).setCell ⟨B, x.toNat, none⟩ (.slice (some ⟨W.heap.size, 0, none⟩) n.size (cvN2 W n))).heap.size = W.heap.size + 1 := by rw [World.size_setCell, cv_size2]
  have x256 := x.toNat_lt
  refine ⟨fun i => ?_, ?_, fun o => (by rw [World.frozen?_setCell, cv_frozen2 n W B o hB]; exact h.nf o), (by rw [shape_set]; unfold World.shape?; rw [cv_block2 n W B hB]; exact h.sh)⟩
  · by_cases e : i = x
    · subst e
      obtain ⟨u, hu, _⟩ := h.c i
      refine ⟨_, World.cell?_setCell_same _ _ _ ((cv_cell2 n W B i.toNat hB).trans hu), ?_⟩
      rw [if_pos rfl]
      refine ⟨W.heap.size, _, n, rfl, rfl, grownCap_ge _ _ _ _, hb, by omega, by rw [hsz]; omega, fun j hj => ?_, ?_⟩
      · rw [World.cell?_setCell_other _ _ _ _ (fun e => by have := congrArg Addr.block e; simp at this; omega)]
        exact cv_bytes2 n W j hj
      · unfold World.shape?
        rw [Below.heap_setCell _ _ _ _ (by show W.heap.size ≠ B; omega)]
        unfold cvW2
        rw [bytesWorld_at_new]; exact ⟨_, rfl⟩
    · obtain ⟨u, hu, hr⟩ := h.c i
      refine ⟨u, ?_, ?_⟩
      · rw [World.cell?_setCell_other _ _ _ _ (fun e2 => e (UInt8.toNat_inj.1 (congrArg Addr.off e2).symm)), cv_cell2 n W B _ hB]; exact hu
      · rw [if_neg e]
        cases hf : f i with
        | none => rw [hf] at hr; exact hr
        | some bs =>
          rw [hf] at hr
          obtain ⟨b, cap, t, e1, e2, e3, e4, e5, e6, e7, m, e8⟩ := hr
          exact ⟨b, cap, t, e1, e2, e3, e4, e5, by rw [hsz]; omega, fun j hj => (World.cell?_of_block (w := W) (hblk b e5 e6)).trans (e7 j hj), m, by unfold World.shape?; rw [hblk b e5 e6]; exact e8⟩
  · obtain ⟨v, hv, hr, hn⟩ := h.r
    refine ⟨v, ?_, ?_, hn⟩
    · rw [World.cell?_setCell_other _ _ _ _ (fun e => by have := congrArg Addr.off e; simp at this; omega), cv_cell2 n W B _ hB]; exact hv
    · refine (ownsRow_bel hr (cv_below2 n W)).kept (row := some B) ?_ (.inr hn)
      exact grownBy_set _ _ _ _
/-- A text is noted. -/
theorem StrC.note {w w2 : World} {base B : Nat} {f : UInt8 → Option Bs} {L L' : List UInt8} {v v' : Value} (h : StrC w base B f L) (hv : w.cell? ⟨B, 256, none⟩ = some v) (hn : v.ownBlock ≠ some B) (hbB : base ≤ B)
    (hr : w2.ownsRow base 9 1 v' L'.length (L'.map fun b => .string ⟨#[b]⟩)) (hn' : v'.ownBlock ≠ some B) (hsz : w.heap.size ≤ w2.heap.size) (hblk : ∀ b, b < w.heap.size → v.ownBlock ≠ some b → w2.heap[b]? = w.heap[b]?)
    {n0 : Nat} {xs0 : List Value} (hr0 : w.ownsRow base 9 1 v n0 xs0) : StrC (w2.setCell ⟨B, 256, none⟩ v') base B f L' := by
  have hB := h.lt
  have hBk := hblk B hB hn
  refine ⟨fun i => ?_, ⟨v', World.cell?_setCell_same _ _ _ ((World.cell?_of_block (w := w) hBk).trans hv), ?_, hn'⟩, fun o => by rw [World.frozen?_setCell]; exact (World.frozen?_of_block (w := w) hBk).trans (h.nf o), (by rw [shape_set]; unfold World.shape?; rw [hBk]; exact h.sh)⟩
  · obtain ⟨u, hu, hru⟩ := h.c i
    have i256 := i.toNat_lt
    refine ⟨u, ?_, ?_⟩
    · rw [World.cell?_setCell_other _ _ _ _ (fun e => by have := congrArg Addr.off e; simp at this; omega)]
      exact (World.cell?_of_block (w := w) hBk).trans hu
    · cases hf : f i with
      | none => rw [hf] at hru; exact hru
      | some bs =>
        rw [hf] at hru
        obtain ⟨b, cap, t, e1, e2, e3, e4, e5, e6, e7, m, e8⟩ := hru
        have hbb := hblk b e6 (own_apart hr0 e8)
        refine ⟨b, cap, t, e1, e2, e3, e4, e5, by rw [World.size_setCell]; omega, fun j hj => ?_, m, ?_⟩
        · rw [World.cell?_setCell_other _ _ _ _ (fun e => e5 (congrArg Addr.block e).symm)]
          exact (World.cell?_of_block (w := w) hbb).trans (e7 j hj)
        · unfold World.shape?
          rw [Below.heap_setCell _ _ _ _ e5, hbb]; exact e8
  · exact hr.kept (row := some B) (grownBy_set _ _ _ _) (.inr hn')

theorem zeroS : Try.zeroCells115 = (Array.replicate 256 (Value.slice none 0 0)).push (.slice none 0 0) := by kernel_rfl
theorem str_info2 : (Try.prog.info? 115).map (·.size) = some 257 := by kernel_rfl
noncomputable def strCells (v : Value) : Array Value := Try.zeroCells115.setIfInBounds 256 v
theorem strCells_size (v : Value) : (strCells v).size = 257 := by unfold strCells; rw [zeroS]; simp
theorem strCells_lo (v : Value) (i : Nat) (hi : i < 256) : (strCells v)[i]? = some (.slice none 0 0) := by
  unfold strCells
  rw [Array.getElem?_setIfInBounds_ne (by omega), zeroS, Array.getElem?_push, if_neg (by rw [Array.size_replicate]; omega)]
  rw [Array.getElem?_replicate, if_pos hi]
theorem strCells_hi (v : Value) : (strCells v)[256]? = some v := by
  unfold strCells
  rw [Array.getElem?_setIfInBounds_self_of_lt (by rw [zeroS]; simp)]
theorem strCells_one (v : Value) (hv : v.oneCell' = true) : (strCells v).all (·.oneCell') = true := by
  rw [Array.all_eq_true_iff_forall_mem]
  intro x hx
  obtain ⟨i, hi, e⟩ := Array.getElem_of_mem hx
  rw [strCells_size] at hi
  by_cases h : i < 256
  · have := strCells_lo v i h
    rw [Array.getElem?_eq_getElem (by rw [strCells_size]; omega), e] at this
    cases this; rfl
  · obtain rfl : i = 256 := by omega
    have := strCells_hi v
    rw [Array.getElem?_eq_getElem (by rw [strCells_size]; omega), e] at this
    cases this; exact hv
theorem str_store (w1 : World) (v : Value) (hv : v.oneCell' = true) : (storeCells { block := w1.heap.size, off := 0 } (Try.zeroCells115.toList.set 256 v)).run Try.prog (w1.alloc (.cells Try.zeroCells115 115)) = .ok () ((w1.alloc (.cells Try.zeroCells115 115)).setCells w1.heap.size 0 (strCells v).toList) := by
  have hB := heap_alloc_new w1 (.cells Try.zeroCells115 115)
  have hth := there_row hB (strCells v).toList.length (by rw [Array.length_toList, strCells_size, zeroS]; simp)
  have he : Try.zeroCells115.toList.set 256 v = (strCells v).toList := by unfold strCells; rw [Array.toList_setIfInBounds]
  rw [he]
  have hone := strCells_one v hv
  rw [Array.all_eq_true_iff_forall_mem] at hone
  have := run_storeCells_cells (P := Try.prog) w1.heap.size 0 (strCells v).toList 0 (w1.alloc (.cells Try.zeroCells115 115)) (fun j hj => by rw [Nat.add_zero]; exact (hth j hj).1) (fun j hj => by rw [Nat.add_zero]; exact (hth j hj).2) (fun x hx => hone x (Array.mem_toList_iff.1 hx))
  rw [Nat.add_zero] at this
  exact this
theorem str_start {w1 : World} {base : Nat} {v : Value} (hb : base ≤ w1.heap.size) (hr : w1.ownsRow base 9 1 v 0 []) :
    StrC ((w1.alloc (.cells Try.zeroCells115 115)).setCells w1.heap.size 0 (strCells v).toList) base w1.heap.size (fun _ => none) [] := by
  have hB := heap_alloc_new w1 (.cells Try.zeroCells115 115)
  have hth := there_row hB (strCells v).toList.length (by rw [Array.length_toList, strCells_size, zeroS]; simp)
  have hat := World.rangeAt_setCells_same _ _ _ (strCells v).toList hth
  refine ⟨fun i => ⟨_, ?_, rfl⟩, ⟨v, ?_, ?_, ?_⟩, fun o => ?_, (by rw [shape_sets]; unfold World.shape?; rw [hB]; exact ⟨_, rfl⟩)⟩
  · have := hat i.toNat (.slice none 0 0) (by rw [Array.getElem?_toList]; exact strCells_lo v _ i.toNat_lt)
    rwa [Nat.zero_add] at this
  · have := hat 256 v (by rw [Array.getElem?_toList]; exact strCells_hi v)
    rwa [Nat.zero_add] at this
  · exact ownsRow_bel hr (below_setC (Nat.le_refl _) _ _ _ ((Below.refl _ w1).alloc (Nat.le_refl _) _))
  · intro e
    have := (hr.lt _ e).2
    omega
  · rw [World.frozen?_setCells]; exact frozen_of_row _ _ o _ _ hB
/-- The state of the loop over the pairs from behind. -/
def StrK (w : World) (base B : Nat) (qs : List BB) (k : Nat) (L : List UInt8) : Prop := StrC w base B (byteFor ((qs.drop k).map tb)) L ∧ L.Nodup ∧ (∀ i, i ∈ L ↔ byteFor ((qs.drop k).map tb) i ≠ none) ∧ L.length + k ≤ qs.length
theorem byteFor_step {qs : List BB} {k : Nat} {q : BB} {x : UInt8} (hq : qs[k]? = some q) (hx : q.1.data.toList = [x]) : byteFor ((qs.drop k).map tb) = fun c => if c = x then some q.2.data.toList else byteFor ((qs.drop (k + 1)).map tb) c := by
  funext c
  have hd : qs.drop k = q :: qs.drop (k + 1) := by
    obtain ⟨hk, e⟩ := List.getElem?_eq_some_iff.1 hq
    rw [List.drop_eq_getElem_cons hk, e]
  rw [hd, List.map_cons, byteFor_cons]
  show (if (q.1.data.toList == [c]) = true then some q.2.data.toList else _) = _
  rw [hx]
  by_cases e : c = x
  · rw [if_pos e, if_pos (by simp [e])]
  · rw [if_neg e, if_neg (by simpa using fun h => e h.symm)]
/-- A byte that is there already. -/
theorem StrK.again {W : World} {base B : Nat} {qs : List BB} {k : Nat} {L : List UInt8} {q : BB} {x : UInt8} (h : StrK W base B qs (k + 1) L) (hb : base ≤ W.heap.size) (hbB : base ≤ B) (hq : qs[k]? = some q) (hx : q.1.data.toList = [x]) (hf : byteFor ((qs.drop (k + 1)).map tb) x ≠ none) :
    StrK ((cvW2 W q.2).setCell ⟨B, x.toNat, none⟩ (.slice (some ⟨W.heap.size, 0, none⟩) q.2.size (cvN2 W q.2))) base B qs k L := by
  obtain ⟨h1, h2, h3, h4⟩ := h
  have hs := byteFor_step hq hx
  refine ⟨by rw [hs]; exact h1.conv hb hbB x q.2, h2, fun i => ?_, by omega⟩
  rw [hs]
  show _ ↔ (if i = x then some q.2.data.toList else _) ≠ none
  by_cases e : i = x
  · rw [if_pos e, e]; exact ⟨fun _ h => (by cases h), fun _ => (h3 x).2 hf⟩
  · rw [if_neg e]; exact h3 i
/-- A byte that is new. -/
theorem StrK.fresh {w w2 : World} {base B : Nat} {qs : List BB} {k : Nat} {L : List UInt8} {q : BB} {x : UInt8} {v v' : Value} (h : StrK w base B qs (k + 1) L) (hb : base ≤ w.heap.size) (hbB : base ≤ B) (hq : qs[k]? = some q) (hx : q.1.data.toList = [x]) (hf : byteFor ((qs.drop (k + 1)).map tb) x = none)
    (hv : w.cell? ⟨B, 256, none⟩ = some v) (hr0 : w.ownsRow base 9 1 v L.length (L.map fun b => .string ⟨#[b]⟩)) (hn : v.ownBlock ≠ some B)
    (hr : w2.ownsRow base 9 1 v' (L.length + 1) ((L.map fun b => .string ⟨#[b]⟩) ++ [.string ⟨#[x]⟩])) (hsz : w.heap.size ≤ w2.heap.size) (hblk : ∀ b, b < w.heap.size → v.ownBlock ≠ some b → w2.heap[b]? = w.heap[b]?) :
    StrK ((cvW2 (w2.setCell ⟨B, 256, none⟩ v') q.2).setCell ⟨B, x.toNat, none⟩ (.slice (some ⟨(w2.setCell ⟨B, 256, none⟩ v').heap.size, 0, none⟩) q.2.size (cvN2 (w2.setCell ⟨B, 256, none⟩ v') q.2))) base B qs k (L ++ [x]) := by
  obtain ⟨h1, h2, h3, h4⟩ := h
  have hs := byteFor_step hq hx
  have hB := h1.lt
  have hn' : v'.ownBlock ≠ some B := fun e => by
    -- B's shape is that of a replacer
    obtain ⟨m, hm⟩ := own_shape hr e
    have hw : w2.shape? B = w.shape? B := by unfold World.shape?; rw [hblk B hB hn]
    obtain ⟨m2, hm2⟩ := h1.sh
    rw [hw, hm2] at hm
    have h9 : 115 = 9 := congrArg Prod.fst (Option.some.inj hm)
    exact absurd h9 (by decide)
  have hr' : w2.ownsRow base 9 1 v' (L ++ [x]).length ((L ++ [x]).map fun b => .string ⟨#[b]⟩) := by simpa using hr
  have h5 := h1.note hv hn hbB hr' hn' hsz hblk hr0
  refine ⟨by rw [hs]; exact h5.conv (by rw [World.size_setCell]; omega) hbB x q.2, ?_, fun i => ?_, by rw [List.length_append]; simp; omega⟩
  · rw [List.nodup_append]
    refine ⟨h2, by simp, fun a ha b hb' e => ?_⟩
    obtain rfl : b = x := by simpa using hb'
    subst e
    exact (h3 a).1 ha hf
  · rw [hs, List.mem_append]
    show _ ↔ (if i = x then some q.2.data.toList else _) ≠ none
    by_cases e : i = x
    · rw [if_pos e]; exact ⟨fun _ h => (by cases h), fun _ => .inr (by simp [e])⟩
    · rw [if_neg e, ← h3 i]
      exact ⟨fun h => h.elim id (fun h => absurd (by simpa using h) e), .inl⟩

set_option maxRecDepth 100000 in
set_option maxHeartbeats 4000000 in
theorem build_strs (Rr : Nat) (xs : List ByteArray) (qs : List BB) (v : Value) (w : World) (hc : w.cell? ⟨Rr, 1, none⟩ = some v) (hv : StrsAt w v xs) (hp : PairsOf xs qs) (hx : xs.length ≤ 2147483647) (hs : ∀ x ∈ xs, x.size ≤ 2147483647) (hns : ¬ isSingle qs) (ho : oldOne qs) (hnw : ¬ newOne qs) :
    Calls Try.prog 69 #[at0 Rr] w (BuiltR qs xs.length w) := by
  obtain ⟨A, c, rfl⟩ := hv.shape
  obtain ⟨_, hcc, hcells⟩ := hv.cells
  have hlen := hp.1
  have HP := Lib.hid hp
  have HC := Lib.hid hcells
  have HS := Lib.hid hs
  have HV := Lib.hid hv
  have HNS := Lib.hid hns
  generalize hn : xs.length = n at hx hcc hlen hc HV
  have HNx := Lib.hid hn
  have HL := Lib.hid hlen
  have hxx : xs.length ≤ 2147483647 := by rw [hn]; exact hx
  have HXX := Lib.hid hxx
  clear hp hcells hs hn hv hns hxx
  have HO := Lib.hid ho
  have HNw := Lib.hid hnw
  clear ho hnw
  by_cases h2 : n = 2
  · have hq1 : ∃ q, qs[0]? = some q := ⟨_, List.getElem?_eq_getElem (by omega)⟩
    obtain ⟨q0, hq0⟩ := hq1
    have hx0 := (HP.out.2 0 q0 hq0).1
    obtain ⟨G0, o0, rfl, hG0, cc0⟩ := HC.out 0 q0.1 hx0
    rw [Nat.add_zero] at cc0
    have hnq : ¬ 1 < q0.1.size := fun e => HNS.out ⟨q0.1, q0.2, by
      have hl1 : qs.length = 1 := by omega
      match qs, hl1 with
      | [a], _ => have : some a = some q0 := hq0
                  cases this; rfl, e⟩
    have hg1 : ((n : Int) == 2) = true := by rw [beq_iff_eq]; omega
    have hg2 : decide (1 < (q0.1.size : Int)) = false := decide_eq_false (by omega)
    have hg3 : decide (1 < q0.1.size) = false := decide_eq_false hnq
    have hn0 : (0 : Int) < (n : Int) := by omega
    have HC0 := HC
    clear hq0 hx0 hnq h2 hlen
    go_enter Try.func69, Try.ntmps69
    go_wp2_with fail

    go_loop [4, 5] (fun s4 iv => ∃ (i k : Nat) (b : Bool), i ≤ n ∧ iv = .int .i64 i ∧ s4 = .bool b ∧ Hid (i = 2 * k) ∧ Hid (b = true → NewK qs k)) (fun _ iv => n - (RowKit.intOf iv).toNat)
    case atStart => exact ⟨0, 0, true, Nat.zero_le _, rfl, rfl, Lib.hid rfl, Lib.hid (fun _ j q h => absurd h (Nat.not_lt_zero _))⟩
    case round =>
      obtain ⟨i, k, b, hin, rfl, rfl, HI, HBt⟩ := hrel
      by_cases hlt : i < n
      · have hltz : (i : Int) < (n : Int) := by omega
        obtain ⟨q, hq⟩ : ∃ q, qs[k]? = some q := ⟨_, List.getElem?_eq_getElem (by have := HI.out; have := HL.out; omega)⟩
        have hx0 : xs[i]? = some q.1 := by rw [HI.out]; exact (HP.out.2 k q hq).1
        have hx1 : xs[i + 1]? = some q.2 := by rw [HI.out]; exact (HP.out.2 k q hq).2
        obtain ⟨G, o, eA, hGl, c0⟩ := HC.out i q.1 hx0
        obtain ⟨G', o', eA', hGl', c1⟩ := HC.out (i + 1) q.2 hx1
        have eA2 := eA.symm.trans eA'
        obtain ⟨rfl, rfl⟩ : G = G' ∧ o = o' := by cases eA2; exact ⟨rfl, rfl⟩
        first | subst eA | (cases eA)
        have hqm := List.mem_of_getElem? hq
        have hb1 : ((q.1.size : Int) != 1) = false := by rw [HO.out q hqm]; rfl
        have hz1 := HS.out q.2 (List.mem_of_getElem? hx1)
        have hi1 : (i : Int) + 1 < (n : Int) := by have := HI.out; have := HL.out; omega
        have HQ := Lib.hid hq
        clear eA' eA2 hq hx0 hx1 hqm
        by_cases hq2 : q.2.size = 1
        · have hb2 : ((q.2.size : Int) != 1) = false := by rw [hq2]; rfl
          have HQ2 := Lib.hid hq2
          clear hq2
          go_wp2_with fail
          go_round
          case rel => exact ⟨i + 2, k + 1, b, by omega, by go_num, rfl, Lib.hid (by have := HI.out; omega), Lib.hid (fun h => (HBt.out h).succ HQ.out HQ2.out)⟩
          case measure => simp [RowKit.intOf]; omega
        · have hb2 : ((q.2.size : Int) != 1) = true := by rw [bne_iff_ne]; omega
          clear hq2
          go_wp2_with fail
          go_round
          case rel => exact ⟨i + 2, k + 1, false, by omega, by go_num, rfl, Lib.hid (by have := HI.out; omega), Lib.hid (fun h => (by cases h))⟩
          case measure => simp [RowKit.intOf]; omega
      · obtain rfl : n = i := by omega
        have hbf : b = false := by
          cases b with
          | false => rfl
          | true => exact absurd (fun q hq => by
              obtain ⟨j, hj, e⟩ := List.getElem_of_mem hq
              exact HBt.out rfl j q (by have := HI.out; have := HL.out; omega) (by rw [List.getElem?_eq_getElem hj, e])) HNw.out
        subst hbf
        have hltz : ¬ ((n : Int) < (n : Int)) := by omega
        obtain ⟨i0, hi, hz0, hz1, hz2⟩ := info_parts str_info
        have hKn : qs.length ≤ 1073741824 := by have := HL.out; omega
        have hK2 : (n : Int) / 2 = (qs.length : Int) := by have := HL.out; omega
        obtain ⟨w1, hrun, hown, hgrow⟩ := run_make_own (P := Try.prog) w w.heap.size 22 9 i0 (.string ByteArray.empty) 1 Try.underlying22 hi hz0 hz1 .i64 .i64 qs.length (by rw [hz2]; omega) (by unfold maxLen; omega) (Nat.le_refl _)
        rw [← hK2] at hrun
        have HOW := Lib.hid hown
        have HBW : Hid (Below w.heap.size w w1) := Lib.hid ((Below.refl _ w).grown hgrow (Nat.le_refl _) (fun k e => by cases e))
        have hst := str_store w1 (.slice (some ⟨w.heap.size, 0, none⟩) 0 qs.length) rfl
        have hn0 : (0 : Int) ≤ (n : Int) := by omega
        clear hown hgrow hK2
        go_wp2_with fail
        have HSt : Hid (StrK ((w1.alloc (.cells Try.zeroCells115 115)).setCells w1.heap.size 0 (strCells (.slice (some ⟨w.heap.size, 0, none⟩) 0 qs.length)).toList) w.heap.size w1.heap.size qs qs.length []) := Lib.hid ⟨by rw [List.drop_length]; exact str_start HBW.out.size HOW.out, List.nodup_nil, fun i => by rw [List.drop_length]; exact ⟨fun h => (by cases h), fun h => absurd rfl h⟩, by simp⟩
        have HSB : Hid (Below w.heap.size w ((w1.alloc (.cells Try.zeroCells115 115)).setCells w1.heap.size 0 (strCells (.slice (some ⟨w.heap.size, 0, none⟩) 0 qs.length)).toList)) := Lib.hid (below_setC HBW.out.size _ _ _ (HBW.out.alloc HBW.out.size _))
        obtain ⟨W, hW⟩ : ∃ W, W = ((w1.alloc (.cells Try.zeroCells115 115)).setCells w1.heap.size 0 (strCells (.slice (some ⟨w.heap.size, 0, none⟩) 0 qs.length)).toList) := ⟨_, rfl⟩
        have hB0 : w.heap.size ≤ w1.heap.size := HBW.out.size
        obtain ⟨B, hBB⟩ : ∃ B, B = w1.heap.size := ⟨_, rfl⟩
        rw [← hW] at HSt HSB ⊢
        rw [← hBB] at HSt hB0 ⊢
        have HB0 := Lib.hid hB0
        clear hW hBB hst hrun HBW HOW hB0
        have qT := fun (w : World) (a : Option Addr) (n c n' c' : Nat) => Lib.run_eql_slice_nil w 41 _ a n c n' c' Try.underlying41
        go_loopw [12] (fun iv wr => ∃ (i k : Nat) (L : List UInt8), i ≤ n ∧ iv = .int .i64 ((i : Int) - 2) ∧ Hid (i = 2 * k) ∧ Hid (StrK wr w.heap.size B qs k L) ∧ Hid (Below w.heap.size w wr)) (fun iv _ => (RowKit.intOf iv + 2).toNat)
        case atStart => exact ⟨n, qs.length, [], Nat.le_refl _, rfl, HL, HSt, HSB⟩
        case round =>
          clear HSt HSB
          obtain ⟨i, k, L, hin, rfl, HI, HT, HB⟩ := hrel
          cases k with
          | zero =>
            obtain rfl : i = 0 := HI.out
            rw [show (((0 : Nat) : Int) - 2) = -2 from rfl]
            go_wp2_with fail
            go_ret
            obtain ⟨h1, h2, h3, h4⟩ := HT.out
            rw [List.drop_zero] at h1 h3
            exact ⟨_, rfl, .strs B L HNS.out HO.out HNw.out ⟨h1.c, h1.r, h1.nf, h2, h3⟩ HB0.out, HB.out⟩
          | succ k =>
            obtain ⟨j, rfl⟩ : ∃ j, i = j + 2 := ⟨i - 2, by have := HI.out; omega⟩
            rw [show (((j + 2 : Nat) : Int) - 2) = (j : Int) by omega]
            obtain ⟨q, hq⟩ : ∃ q, qs[k]? = some q := ⟨_, List.getElem?_eq_getElem (by have := HI.out; have := HL.out; omega)⟩
            have hx0 : xs[j]? = some q.1 := by rw [show j = 2 * k by have := HI.out; omega]; exact (HP.out.2 k q hq).1
            have hx1 : xs[j + 1]? = some q.2 := by rw [show j = 2 * k by have := HI.out; omega]; exact (HP.out.2 k q hq).2
            obtain ⟨G, o, eA, hGl, d0⟩ := HC.out j q.1 hx0
            obtain ⟨G', o', eA', hGl', d1⟩ := HC.out (j + 1) q.2 hx1
            have eA2 := eA.symm.trans eA'
            obtain ⟨rfl, rfl⟩ : G = G' ∧ o = o' := by cases eA2; exact ⟨rfl, rfl⟩
            first | subst eA | (cases eA)
            have c0 := Eq.trans (HB.out.cell (p := ⟨_, _, none⟩) hGl) d0
            have c1 := Eq.trans (HB.out.cell (p := ⟨_, _, none⟩) hGl) d1
            have hqm := List.mem_of_getElem? hq
            have s1 := size_one (HO.out q hqm)
            have i1 : 0 < q.1.size := by rw [HO.out q hqm]; decide
            have w5 := idx_run q.1 0 0 rfl i1
            rw [← bt_at q.1 0 i1] at w5
            generalize bt q.1 0 = x at w5 s1
            have x256 := x.toNat_lt
            obtain ⟨xv, cx, hrv⟩ := HT.out.1.c x
            have fx := HT.out.1.nf x.toNat
            have hBl := HT.out.1.lt
            have HS1 := Lib.hid s1
            have HQ := Lib.hid hq
            have hjn : (j : Int) < (n : Int) := by omega
            have hjn1 : (j : Int) + 1 < (n : Int) := by have := HI.out; have := HL.out; omega
            have hj0 : (0 : Int) ≤ (j : Int) := by omega
            have hcv := fun W => cv_run2 q.2 W
            clear eA' eA2 hq hx0 hx1 hqm d0 d1 s1
            cases hf : byteFor ((qs.drop (k + 1)).map tb) x with
            | some bs =>
              rw [hf] at hrv
              obtain ⟨b, cap, t, rfl, _, _, _, _, _, _, _⟩ := hrv
              have kx := (cv_cell2 q.2 wr B x.toNat hBl).trans cx
              have kf := (cv_frozen2 q.2 wr B x.toNat hBl).trans fx
              have HK2 := Lib.hid (HT.out.again HB.out.size HB0.out HQ.out HS1.out (by rw [hf]; exact fun h => (by cases h)))
              have HBn : Hid (Below w.heap.size w ((cvW2 wr q.2).setCell ⟨B, x.toNat, none⟩ (.slice (some ⟨wr.heap.size, 0, none⟩) q.2.size (cvN2 wr q.2)))) := Lib.hid ((HB.out.trans ((cv_below2 q.2 wr).mono HB.out.size)).setCell HB0.out _)
              clear hf hBl
              go_wp2_with fail
              go_roundw
              case rel => exact ⟨j, k, L, by omega, rfl, Lib.hid (by have := HI.out; omega), HK2, HBn⟩
              case measure => simp [RowKit.intOf]; omega
            | none =>
              rw [hf] at hrv
              obtain rfl : xv = .slice none 0 0 := hrv
              obtain ⟨v0, hv0, hr0, hn0'⟩ := HT.out.1.r
              have f256 := HT.out.1.nf 256
              have HR := Lib.hid hr0
              have HN0 := Lib.hid hn0'
              have HV0 := Lib.hid hv0
              have HF := Lib.hid hf
              have HBl := Lib.hid hBl
              have ho1 := one_run wr x
              have hLk : L.length + (k + 1) ≤ qs.length := HT.out.2.2.2
              have hmx : L.length + 1 ≤ maxLen := by unfold maxLen; omega
              have HCX := Lib.hid cx
              have HFX := Lib.hid fx
              clear hr0 hn0' hf hBl
              go_wp2_with (at_builtin; refine wpList_append_own _ rfl _ _ 22 rfl w.heap.size 9 i0 (.string ByteArray.empty) 1 16 Try.underlying22 hi hz0 hz1 hz2 rfl (by decide) _ _ _ rfl ((HR.out.alloc _).alloc _) ⟨wr.heap.size + 1, 0, none⟩ 1 1 [.string ⟨#[x]⟩] rfl rfl (cell_new_at _ _ (by simp) _ _) (by simp [Value.oneCell']) hmx (by omega) (by have := HB.out.size; simp; omega) ?_; intro v' w2 hown' hgrow _; have hblk : ∀ b, b < wr.heap.size → v0.ownBlock ≠ some b → w2.heap[b]? = wr.heap[b]? := (fun b hb hne => (hgrow.block b (by simp; omega) (fun e => hne e.symm)).trans ((Below.heap_alloc _ _ _ (by simp; omega)).trans (Below.heap_alloc _ _ _ hb))); have HBlk := Lib.hid hblk; have hsz2 : wr.heap.size ≤ w2.heap.size := (by have := hgrow.size; simp at this; omega); have HSz := Lib.hid hsz2; have hBB := hblk B HBl.out HN0.out; have k256 : w2.cell? ⟨B, 256, none⟩ = some v0 := (World.cell?_of_block (w := wr) hBB).trans HV0.out; have g256 : w2.frozen? ⟨B, 256, none⟩ = false := (World.frozen?_of_block (w := wr) hBB).trans f256; have hB2 : Below w.heap.size w w2 := ((HB.out.alloc HB.out.size _).alloc (by have := HB.out.size; simp; omega) _).grown hgrow (by have := HB.out.size; simp; omega) (fun j ej => (HR.out.lt j ej).1); have HB2 := Lib.hid hB2; obtain ⟨g', cap', rfl⟩ := ownsRow_succ hown'; have HO2 := Lib.hid hown'; have hl2 : B < (w2.setCell ⟨B, 256, none⟩ (.slice (some ⟨g', 0, none⟩) (L.length + 1) cap')).heap.size := (by rw [World.size_setCell]; have := HBl.out; omega); have kx2 : (cvW2 (w2.setCell ⟨B, 256, none⟩ (.slice (some ⟨g', 0, none⟩) (L.length + 1) cap')) q.2).cell? ⟨B, x.toNat, none⟩ = some (.slice none 0 0) := (by rw [cv_cell2 _ _ _ _ hl2, World.cell?_setCell_other _ _ _ _ (fun e => by have := congrArg Addr.off e; simp at this; omega)]; exact (World.cell?_of_block (w := wr) hBB).trans HCX.out); have fx2 : (cvW2 (w2.setCell ⟨B, 256, none⟩ (.slice (some ⟨g', 0, none⟩) (L.length + 1) cap')) q.2).frozen? ⟨B, x.toNat, none⟩ = false := (by rw [cv_frozen2 _ _ _ _ hl2, World.frozen?_setCell]; exact (World.frozen?_of_block (w := wr) hBB).trans HFX.out); clear hblk hsz2 hBB hB2 hown' hgrow hl2)
              have HK2 := Lib.hid (HT.out.fresh HB.out.size HB0.out HQ.out HS1.out HF.out HV0.out HR.out HN0.out HO2.out HSz.out HBlk.out)
              have HBn : Hid (Below w.heap.size w ((cvW2 (w2.setCell ⟨B, 256, none⟩ (.slice (some ⟨g', 0, none⟩) (L.length + 1) cap')) q.2).setCell ⟨B, x.toNat, none⟩ (.slice (some ⟨(w2.setCell ⟨B, 256, none⟩ (.slice (some ⟨g', 0, none⟩) (L.length + 1) cap')).heap.size, 0, none⟩) q.2.size (cvN2 (w2.setCell ⟨B, 256, none⟩ (.slice (some ⟨g', 0, none⟩) (L.length + 1) cap')) q.2)))) := Lib.hid (((HB2.out.setCell HB0.out _).trans ((cv_below2 q.2 _).mono (by rw [World.size_setCell]; exact HB2.out.size))).setCell HB0.out _)
              rw [World.size_setCell] at HK2 HBn
              go_roundw
              case rel => exact ⟨j, k, L ++ [x], by omega, rfl, Lib.hid (by have := HI.out; omega), HK2, HBn⟩
              case measure => simp [RowKit.intOf]; omega
  · have hg1 : ((n : Int) == 2) = false := beq_eq_false_iff_ne.2 (by omega)
    clear h2 hlen
    go_enter Try.func69, Try.ntmps69
    go_wp2_with fail

    go_loop [4, 5] (fun s4 iv => ∃ (i k : Nat) (b : Bool), i ≤ n ∧ iv = .int .i64 i ∧ s4 = .bool b ∧ Hid (i = 2 * k) ∧ Hid (b = true → NewK qs k)) (fun _ iv => n - (RowKit.intOf iv).toNat)
    case atStart => exact ⟨0, 0, true, Nat.zero_le _, rfl, rfl, Lib.hid rfl, Lib.hid (fun _ j q h => absurd h (Nat.not_lt_zero _))⟩
    case round =>
      obtain ⟨i, k, b, hin, rfl, rfl, HI, HBt⟩ := hrel
      by_cases hlt : i < n
      · have hltz : (i : Int) < (n : Int) := by omega
        obtain ⟨q, hq⟩ : ∃ q, qs[k]? = some q := ⟨_, List.getElem?_eq_getElem (by have := HI.out; have := HL.out; omega)⟩
        have hx0 : xs[i]? = some q.1 := by rw [HI.out]; exact (HP.out.2 k q hq).1
        have hx1 : xs[i + 1]? = some q.2 := by rw [HI.out]; exact (HP.out.2 k q hq).2
        obtain ⟨G, o, eA, hGl, c0⟩ := HC.out i q.1 hx0
        obtain ⟨G', o', eA', hGl', c1⟩ := HC.out (i + 1) q.2 hx1
        have eA2 := eA.symm.trans eA'
        obtain ⟨rfl, rfl⟩ : G = G' ∧ o = o' := by cases eA2; exact ⟨rfl, rfl⟩
        first | subst eA | (cases eA)
        have hqm := List.mem_of_getElem? hq
        have hb1 : ((q.1.size : Int) != 1) = false := by rw [HO.out q hqm]; rfl
        have hz1 := HS.out q.2 (List.mem_of_getElem? hx1)
        have hi1 : (i : Int) + 1 < (n : Int) := by have := HI.out; have := HL.out; omega
        have HQ := Lib.hid hq
        clear eA' eA2 hq hx0 hx1 hqm
        by_cases hq2 : q.2.size = 1
        · have hb2 : ((q.2.size : Int) != 1) = false := by rw [hq2]; rfl
          have HQ2 := Lib.hid hq2
          clear hq2
          go_wp2_with fail
          go_round
          case rel => exact ⟨i + 2, k + 1, b, by omega, by go_num, rfl, Lib.hid (by have := HI.out; omega), Lib.hid (fun h => (HBt.out h).succ HQ.out HQ2.out)⟩
          case measure => simp [RowKit.intOf]; omega
        · have hb2 : ((q.2.size : Int) != 1) = true := by rw [bne_iff_ne]; omega
          clear hq2
          go_wp2_with fail
          go_round
          case rel => exact ⟨i + 2, k + 1, false, by omega, by go_num, rfl, Lib.hid (by have := HI.out; omega), Lib.hid (fun h => (by cases h))⟩
          case measure => simp [RowKit.intOf]; omega
      · obtain rfl : n = i := by omega
        have hbf : b = false := by
          cases b with
          | false => rfl
          | true => exact absurd (fun q hq => by
              obtain ⟨j, hj, e⟩ := List.getElem_of_mem hq
              exact HBt.out rfl j q (by have := HI.out; have := HL.out; omega) (by rw [List.getElem?_eq_getElem hj, e])) HNw.out
        subst hbf
        have hltz : ¬ ((n : Int) < (n : Int)) := by omega
        obtain ⟨i0, hi, hz0, hz1, hz2⟩ := info_parts str_info
        have hKn : qs.length ≤ 1073741824 := by have := HL.out; omega
        have hK2 : (n : Int) / 2 = (qs.length : Int) := by have := HL.out; omega
        obtain ⟨w1, hrun, hown, hgrow⟩ := run_make_own (P := Try.prog) w w.heap.size 22 9 i0 (.string ByteArray.empty) 1 Try.underlying22 hi hz0 hz1 .i64 .i64 qs.length (by rw [hz2]; omega) (by unfold maxLen; omega) (Nat.le_refl _)
        rw [← hK2] at hrun
        have HOW := Lib.hid hown
        have HBW : Hid (Below w.heap.size w w1) := Lib.hid ((Below.refl _ w).grown hgrow (Nat.le_refl _) (fun k e => by cases e))
        have hst := str_store w1 (.slice (some ⟨w.heap.size, 0, none⟩) 0 qs.length) rfl
        have hn0 : (0 : Int) ≤ (n : Int) := by omega
        clear hown hgrow hK2
        go_wp2_with fail
        have HSt : Hid (StrK ((w1.alloc (.cells Try.zeroCells115 115)).setCells w1.heap.size 0 (strCells (.slice (some ⟨w.heap.size, 0, none⟩) 0 qs.length)).toList) w.heap.size w1.heap.size qs qs.length []) := Lib.hid ⟨by rw [List.drop_length]; exact str_start HBW.out.size HOW.out, List.nodup_nil, fun i => by rw [List.drop_length]; exact ⟨fun h => (by cases h), fun h => absurd rfl h⟩, by simp⟩
        have HSB : Hid (Below w.heap.size w ((w1.alloc (.cells Try.zeroCells115 115)).setCells w1.heap.size 0 (strCells (.slice (some ⟨w.heap.size, 0, none⟩) 0 qs.length)).toList)) := Lib.hid (below_setC HBW.out.size _ _ _ (HBW.out.alloc HBW.out.size _))
        obtain ⟨W, hW⟩ : ∃ W, W = ((w1.alloc (.cells Try.zeroCells115 115)).setCells w1.heap.size 0 (strCells (.slice (some ⟨w.heap.size, 0, none⟩) 0 qs.length)).toList) := ⟨_, rfl⟩
        have hB0 : w.heap.size ≤ w1.heap.size := HBW.out.size
        obtain ⟨B, hBB⟩ : ∃ B, B = w1.heap.size := ⟨_, rfl⟩
        rw [← hW] at HSt HSB ⊢
        rw [← hBB] at HSt hB0 ⊢
        have HB0 := Lib.hid hB0
        clear hW hBB hst hrun HBW HOW hB0
        have qT := fun (w : World) (a : Option Addr) (n c n' c' : Nat) => Lib.run_eql_slice_nil w 41 _ a n c n' c' Try.underlying41
        go_loopw [12] (fun iv wr => ∃ (i k : Nat) (L : List UInt8), i ≤ n ∧ iv = .int .i64 ((i : Int) - 2) ∧ Hid (i = 2 * k) ∧ Hid (StrK wr w.heap.size B qs k L) ∧ Hid (Below w.heap.size w wr)) (fun iv _ => (RowKit.intOf iv + 2).toNat)
        case atStart => exact ⟨n, qs.length, [], Nat.le_refl _, rfl, HL, HSt, HSB⟩
        case round =>
          clear HSt HSB
          obtain ⟨i, k, L, hin, rfl, HI, HT, HB⟩ := hrel
          cases k with
          | zero =>
            obtain rfl : i = 0 := HI.out
            rw [show (((0 : Nat) : Int) - 2) = -2 from rfl]
            go_wp2_with fail
            go_ret
            obtain ⟨h1, h2, h3, h4⟩ := HT.out
            rw [List.drop_zero] at h1 h3
            exact ⟨_, rfl, .strs B L HNS.out HO.out HNw.out ⟨h1.c, h1.r, h1.nf, h2, h3⟩ HB0.out, HB.out⟩
          | succ k =>
            obtain ⟨j, rfl⟩ : ∃ j, i = j + 2 := ⟨i - 2, by have := HI.out; omega⟩
            rw [show (((j + 2 : Nat) : Int) - 2) = (j : Int) by omega]
            obtain ⟨q, hq⟩ : ∃ q, qs[k]? = some q := ⟨_, List.getElem?_eq_getElem (by have := HI.out; have := HL.out; omega)⟩
            have hx0 : xs[j]? = some q.1 := by rw [show j = 2 * k by have := HI.out; omega]; exact (HP.out.2 k q hq).1
            have hx1 : xs[j + 1]? = some q.2 := by rw [show j = 2 * k by have := HI.out; omega]; exact (HP.out.2 k q hq).2
            obtain ⟨G, o, eA, hGl, d0⟩ := HC.out j q.1 hx0
            obtain ⟨G', o', eA', hGl', d1⟩ := HC.out (j + 1) q.2 hx1
            have eA2 := eA.symm.trans eA'
            obtain ⟨rfl, rfl⟩ : G = G' ∧ o = o' := by cases eA2; exact ⟨rfl, rfl⟩
            first | subst eA | (cases eA)
            have c0 := Eq.trans (HB.out.cell (p := ⟨_, _, none⟩) hGl) d0
            have c1 := Eq.trans (HB.out.cell (p := ⟨_, _, none⟩) hGl) d1
            have hqm := List.mem_of_getElem? hq
            have s1 := size_one (HO.out q hqm)
            have i1 : 0 < q.1.size := by rw [HO.out q hqm]; decide
            have w5 := idx_run q.1 0 0 rfl i1
            rw [← bt_at q.1 0 i1] at w5
            generalize bt q.1 0 = x at w5 s1
            have x256 := x.toNat_lt
            obtain ⟨xv, cx, hrv⟩ := HT.out.1.c x
            have fx := HT.out.1.nf x.toNat
            have hBl := HT.out.1.lt
            have HS1 := Lib.hid s1
            have HQ := Lib.hid hq
            have hjn : (j : Int) < (n : Int) := by omega
            have hjn1 : (j : Int) + 1 < (n : Int) := by have := HI.out; have := HL.out; omega
            have hj0 : (0 : Int) ≤ (j : Int) := by omega
            have hcv := fun W => cv_run2 q.2 W
            clear eA' eA2 hq hx0 hx1 hqm d0 d1 s1
            cases hf : byteFor ((qs.drop (k + 1)).map tb) x with
            | some bs =>
              rw [hf] at hrv
              obtain ⟨b, cap, t, rfl, _, _, _, _, _, _, _⟩ := hrv
              have kx := (cv_cell2 q.2 wr B x.toNat hBl).trans cx
              have kf := (cv_frozen2 q.2 wr B x.toNat hBl).trans fx
              have HK2 := Lib.hid (HT.out.again HB.out.size HB0.out HQ.out HS1.out (by rw [hf]; exact fun h => (by cases h)))
              have HBn : Hid (Below w.heap.size w ((cvW2 wr q.2).setCell ⟨B, x.toNat, none⟩ (.slice (some ⟨wr.heap.size, 0, none⟩) q.2.size (cvN2 wr q.2)))) := Lib.hid ((HB.out.trans ((cv_below2 q.2 wr).mono HB.out.size)).setCell HB0.out _)
              clear hf hBl
              go_wp2_with fail
              go_roundw
              case rel => exact ⟨j, k, L, by omega, rfl, Lib.hid (by have := HI.out; omega), HK2, HBn⟩
              case measure => simp [RowKit.intOf]; omega
            | none =>
              rw [hf] at hrv
              obtain rfl : xv = .slice none 0 0 := hrv
              obtain ⟨v0, hv0, hr0, hn0'⟩ := HT.out.1.r
              have f256 := HT.out.1.nf 256
              have HR := Lib.hid hr0
              have HN0 := Lib.hid hn0'
              have HV0 := Lib.hid hv0
              have HF := Lib.hid hf
              have HBl := Lib.hid hBl
              have ho1 := one_run wr x
              have hLk : L.length + (k + 1) ≤ qs.length := HT.out.2.2.2
              have hmx : L.length + 1 ≤ maxLen := by unfold maxLen; omega
              have HCX := Lib.hid cx
              have HFX := Lib.hid fx
              clear hr0 hn0' hf hBl
              go_wp2_with (at_builtin; refine wpList_append_own _ rfl _ _ 22 rfl w.heap.size 9 i0 (.string ByteArray.empty) 1 16 Try.underlying22 hi hz0 hz1 hz2 rfl (by decide) _ _ _ rfl ((HR.out.alloc _).alloc _) ⟨wr.heap.size + 1, 0, none⟩ 1 1 [.string ⟨#[x]⟩] rfl rfl (cell_new_at _ _ (by simp) _ _) (by simp [Value.oneCell']) hmx (by omega) (by have := HB.out.size; simp; omega) ?_; intro v' w2 hown' hgrow _; have hblk : ∀ b, b < wr.heap.size → v0.ownBlock ≠ some b → w2.heap[b]? = wr.heap[b]? := (fun b hb hne => (hgrow.block b (by simp; omega) (fun e => hne e.symm)).trans ((Below.heap_alloc _ _ _ (by simp; omega)).trans (Below.heap_alloc _ _ _ hb))); have HBlk := Lib.hid hblk; have hsz2 : wr.heap.size ≤ w2.heap.size := (by have := hgrow.size; simp at this; omega); have HSz := Lib.hid hsz2; have hBB := hblk B HBl.out HN0.out; have k256 : w2.cell? ⟨B, 256, none⟩ = some v0 := (World.cell?_of_block (w := wr) hBB).trans HV0.out; have g256 : w2.frozen? ⟨B, 256, none⟩ = false := (World.frozen?_of_block (w := wr) hBB).trans f256; have hB2 : Below w.heap.size w w2 := ((HB.out.alloc HB.out.size _).alloc (by have := HB.out.size; simp; omega) _).grown hgrow (by have := HB.out.size; simp; omega) (fun j ej => (HR.out.lt j ej).1); have HB2 := Lib.hid hB2; obtain ⟨g', cap', rfl⟩ := ownsRow_succ hown'; have HO2 := Lib.hid hown'; have hl2 : B < (w2.setCell ⟨B, 256, none⟩ (.slice (some ⟨g', 0, none⟩) (L.length + 1) cap')).heap.size := (by rw [World.size_setCell]; have := HBl.out; omega); have kx2 : (cvW2 (w2.setCell ⟨B, 256, none⟩ (.slice (some ⟨g', 0, none⟩) (L.length + 1) cap')) q.2).cell? ⟨B, x.toNat, none⟩ = some (.slice none 0 0) := (by rw [cv_cell2 _ _ _ _ hl2, World.cell?_setCell_other _ _ _ _ (fun e => by have := congrArg Addr.off e; simp at this; omega)]; exact (World.cell?_of_block (w := wr) hBB).trans HCX.out); have fx2 : (cvW2 (w2.setCell ⟨B, 256, none⟩ (.slice (some ⟨g', 0, none⟩) (L.length + 1) cap')) q.2).frozen? ⟨B, x.toNat, none⟩ = false := (by rw [cv_frozen2 _ _ _ _ hl2, World.frozen?_setCell]; exact (World.frozen?_of_block (w := wr) hBB).trans HFX.out); clear hblk hsz2 hBB hB2 hown' hgrow hl2)
              have HK2 := Lib.hid (HT.out.fresh HB.out.size HB0.out HQ.out HS1.out HF.out HV0.out HR.out HN0.out HO2.out HSz.out HBlk.out)
              have HBn : Hid (Below w.heap.size w ((cvW2 (w2.setCell ⟨B, 256, none⟩ (.slice (some ⟨g', 0, none⟩) (L.length + 1) cap')) q.2).setCell ⟨B, x.toNat, none⟩ (.slice (some ⟨(w2.setCell ⟨B, 256, none⟩ (.slice (some ⟨g', 0, none⟩) (L.length + 1) cap')).heap.size, 0, none⟩) q.2.size (cvN2 (w2.setCell ⟨B, 256, none⟩ (.slice (some ⟨g', 0, none⟩) (L.length + 1) cap')) q.2)))) := Lib.hid (((HB2.out.setCell HB0.out _).trans ((cv_below2 q.2 _).mono (by rw [World.size_setCell]; exact HB2.out.size))).setCell HB0.out _)
              rw [World.size_setCell] at HK2 HBn
              go_roundw
              case rel => exact ⟨j, k, L ++ [x], by omega, rfl, Lib.hid (by have := HI.out; omega), HK2, HBn⟩
              case measure => simp [RowKit.intOf]; omega
theorem build_any (Rr : Nat) (xs : List ByteArray) (qs : List BB) (v : Value) (w : World) (hc : w.cell? ⟨Rr, 1, none⟩ = some v) (hv : StrsAt w v xs) (hp : PairsOf xs qs) (hx : xs.length ≤ 2147483647) (hs : ∀ x ∈ xs, x.size ≤ 2147483647) :
    Calls Try.prog 69 #[at0 Rr] w (BuiltR qs xs.length w) := by
  by_cases hsi : isSingle qs
  · obtain ⟨p, u, rfl, h1⟩ := hsi
    have h0 := hp.2 0 (p, u) rfl
    have hxe : xs = [p, u] := by
      have hl : xs.length = 2 := hp.1
      match xs, hl, h0 with
      | [a, b], _, h0 =>
        have e1 : a = p := Option.some.inj h0.1
        have e2 : b = u := Option.some.inj h0.2
        rw [e1, e2]
    subst hxe
    exact build_single Rr (p, u) v w hc hv h1 (hs p (by simp))
  · by_cases ho : oldOne qs
    · by_cases hn : newOne qs
      · exact build_bytes Rr xs qs v w hc hv hp hx hs hsi ho hn
      · exact build_strs Rr xs qs v w hc hv hp hx hs hsi ho hn
    · exact build_gen Rr xs qs v w hc hv hp hx hs hsi ho
end Go.Proofs.Ytnigbgablginnaa


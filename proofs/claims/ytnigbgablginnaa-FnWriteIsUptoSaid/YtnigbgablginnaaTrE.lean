/- (*trieNode).add: the contract, by induction on the key. -/
import Derived.Test.YtnigbgablginnaaTrD
set_option linter.unusedVariables false
namespace Go.Proofs.Ytnigbgablginnaa
open Go.RowKit Go.Lib

def Inj (m : UInt8 → Nat) (N : Nat) : Prop := ∀ c d : UInt8, m c < N → m d = m c → d = c
/-- The replacer's own block stands in the tree at its root alone, and there as a table. -/
def GOk (T : Tr) (g : Nat) : Prop := T.has g → ∃ v p tb ch, T = .tab g v p tb ch

theorem bt_get (s : ByteArray) (j : Nat) (h : j < s.size) : s.data.toList[j]? = some (bt s j) := by rw [bt_at s j h, byte_at s j h]
theorem key_cons (key : ByteArray) (h : 1 ≤ key.size) : key.data.toList = bt key 0 :: (key.extract 1 key.size).data.toList := by
  rw [show (key.extract 1 key.size).data.toList = key.data.toList.drop 1 from Lib.extract_to_end ..]
  have h0 := bt_get key 0 (by omega)
  cases hk : key.data.toList with
  | nil => rw [hk] at h0; simp at h0
  | cons c r => rw [hk] at h0; simp at h0; rw [h0]; rfl
theorem cut_at (key : ByteArray) (k : Nat) : key.data.toList = key.data.toList.take k ++ (key.extract k key.size).data.toList := by
  rw [show (key.extract k key.size).data.toList = key.data.toList.drop k from Lib.extract_to_end .., List.take_append_drop]
theorem front_list (key : ByteArray) (k : Nat) : (key.extract 0 k).data.toList = key.data.toList.take k := by rw [Lib.extract_data]; simp
theorem lcp_there (s t : ByteArray) : ∃ L, Lcp s t L := by
  have h : ∀ k, (∃ L, Lcp s t L) ∨ (k ≤ s.size ∧ k ≤ t.size ∧ ∀ j, j < k → bt s j = bt t j) := by
    intro k
    induction k with
    | zero => exact .inr ⟨Nat.zero_le _, Nat.zero_le _, fun j h => absurd h (Nat.not_lt_zero _)⟩
    | succ k ih =>
      rcases ih with h | ⟨h1, h2, h3⟩
      · exact .inl h
      · by_cases hs : k < s.size
        · by_cases ht : k < t.size
          · by_cases he : bt s k = bt t k
            · refine .inr ⟨hs, ht, fun j hj => ?_⟩
              rcases Nat.lt_or_eq_of_le (Nat.le_of_lt_succ hj) with h | rfl
              · exact h3 j h
              · exact he
            · exact .inl ⟨k, h1, h2, h3, fun _ _ => he⟩
          · exact .inl ⟨k, h1, h2, h3, fun _ h => absurd h ht⟩
        · exact .inl ⟨k, h1, h2, h3, fun h => absurd h hs⟩
  rcases h (s.size + 1) with h | ⟨h, _⟩
  · exact h
  · omega
theorem lcp_take {s t : ByteArray} {L : Nat} (h : Lcp s t L) : s.data.toList.take L = t.data.toList.take L := by
  apply List.ext_getElem?
  intro j
  by_cases hj : j < L
  · rw [List.getElem?_take_of_lt hj, List.getElem?_take_of_lt hj, bt_get s j (Nat.lt_of_lt_of_le hj h.1), bt_get t j (Nat.lt_of_lt_of_le hj h.2.1), h.2.2.1 j hj]
  · rw [List.getElem?_eq_none (by rw [List.length_take]; omega), List.getElem?_eq_none (by rw [List.length_take]; omega)]
theorem mem_extract {key : ByteArray} {k : Nat} {c : UInt8} (h : c ∈ (key.extract k key.size).data.toList) : c ∈ key.data.toList := by
  rw [show (key.extract k key.size).data.toList = key.data.toList.drop k from Lib.extract_to_end ..] at h
  exact List.mem_of_mem_drop h
theorem mem_front {key : ByteArray} {k : Nat} {c : UInt8} (h : c ∈ (key.extract 0 k).data.toList) : c ∈ key.data.toList := by
  rw [front_list] at h
  exact List.mem_of_mem_take h
theorem leaf_get (m : UInt8 → Nat) (K : Nat) : (Tr.leaf K ByteArray.empty 0).get m = Tr.nil.get m := by
  funext x
  cases x <;> simp [Tr.get]
theorem root_none {T : Tr} (h : T.root = none) : T = .nil := by cases T <;> simp_all [Tr.root]
theorem NodeAt.new' {w : World} {K : Nat} (hK : w.heap.size = K) (v : ByteArray) (p : Nat) (pref : ByteArray) (nx tbl : Value) (t : TypeId) : NodeAt (w.alloc (.cells (nodeCells v p pref nx tbl) t)) K v p pref nx tbl := by
  subst hK; exact NodeAt.new w v p pref nx tbl t

theorem cell_drewN (w : World) (n : Nat) (a : Addr) : (w.drewN n).cell? a = w.cell? a := rfl
theorem frozen_drewN (w : World) (n : Nat) (a : Addr) : (w.drewN n).frozen? a = w.frozen? a := rfl
theorem size_drewN (w : World) (n : Nat) : (w.drewN n).heap.size = w.heap.size := rfl
/-- The world behind the writes that make a table of a prefix. -/
def noneW' (w1 : World) (a N K Tb mx my : Nat) (PX : Value) : World :=
  (((((((w1.alloc leafObj).setCell ⟨a, 4, none⟩ (.slice (some ⟨Tb, 0, none⟩) N N)).alloc (tabObj N)).setCell ⟨Tb, mx, none⟩ PX).setCell ⟨Tb, my, none⟩ (at0 K)).setCell ⟨a, 2, none⟩ (.string ByteArray.empty)).setCell ⟨a, 3, none⟩ (.pointer none))
def noneW (w1 : World) (a N K Tb mx my : Nat) (PX : Value) (q : Nat) : World := (noneW' w1 a N K Tb mx my PX).drewN q
structure NoneW (w1 W0 : World) (m : UInt8 → Nat) (a g N base K Tb mx my : Nat) (v : ByteArray) (p : Nat) (PX : Value) : Prop where
  na : NodeAt W0 a v p ByteArray.empty (.pointer none) (.slice (some ⟨Tb, 0, none⟩) N N)
  cx : W0.cell? ⟨Tb, mx, none⟩ = some PX
  cy : W0.cell? ⟨Tb, my, none⟩ = some (at0 K)
  ci : ∀ i, i < N → i ≠ mx → i ≠ my → W0.cell? ⟨Tb, i, none⟩ = some (.pointer none)
  fz : ∀ o, W0.frozen? ⟨Tb, o, none⟩ = false
  leaf : NodeAt W0 K ByteArray.empty 0 ByteArray.empty (.pointer none) (.slice none 0 0)
  rep : RepAt W0 g N m
  lt : Tb < W0.heap.size
  lies : ∀ V, Lies w1 m N base V → ¬ V.has a → Lies W0 m N base V
  loc : ∀ w, Loc w w1 a (· = a) → a < w.heap.size → w.heap.size ≤ K → Loc w W0 a (· = a)
theorem none_world {w1 : World} {m : UInt8 → Nat} {a g N base K Tb mx my : Nat} {v pref : ByteArray} {p : Nat} {nx PX : Value} (hK : w1.heap.size = K) (hTb : Tb = K + 1) (hN : NodeAt w1 a v p pref nx (.slice none 0 0)) (hR : RepAt w1 g N m) (hag : a ≠ g)
    (hmx : mx < N) (hmy : my < N) (hxy : mx ≠ my) (q : Nat) : NoneW w1 (noneW w1 a N K Tb mx my PX q) m a g N base K Tb mx my v p PX := by
  have hal := hN.lt
  have hgl := hR.lt
  have hTa : Tb ≠ a := by omega
  have hTg : Tb ≠ g := by omega
  have hTK : Tb ≠ K := by omega
  have haK : a ≠ K := by omega
  have hz : ((w1.alloc leafObj).setCell ⟨a, 4, none⟩ (.slice (some ⟨Tb, 0, none⟩) N N)).heap.size = Tb := by
    rw [hTb, ← hK]; simp
  have cz : ∀ i, i < N → (((w1.alloc leafObj).setCell ⟨a, 4, none⟩ (.slice (some ⟨Tb, 0, none⟩) N N)).alloc (tabObj N)).cell? ⟨Tb, i, none⟩ = some (.pointer none) := fun i hi => by
    have := made_cell ((w1.alloc leafObj).setCell ⟨a, 4, none⟩ (.slice (some ⟨Tb, 0, none⟩) N N)) N i hi
    rwa [hz] at this
  have fz : ∀ i, (((w1.alloc leafObj).setCell ⟨a, 4, none⟩ (.slice (some ⟨Tb, 0, none⟩) N N)).alloc (tabObj N)).frozen? ⟨Tb, i, none⟩ = false := fun i => by
    have := made_free ((w1.alloc leafObj).setCell ⟨a, 4, none⟩ (.slice (some ⟨Tb, 0, none⟩) N N)) N i
    rwa [hz] at this
  have ne2 : ∀ i, (⟨a, 2, none⟩ : Addr) ≠ ⟨Tb, i, none⟩ := fun i e => hTa (congrArg Addr.block e).symm
  have ne3 : ∀ i, (⟨a, 3, none⟩ : Addr) ≠ ⟨Tb, i, none⟩ := fun i e => hTa (congrArg Addr.block e).symm
  have nxy : (⟨Tb, mx, none⟩ : Addr) ≠ ⟨Tb, my, none⟩ := fun e => hxy (congrArg Addr.off e)
  refine ⟨?_, ?_, ?_, fun i hi hix hiy => ?_, fun o => ?_, ?_, ?_, ?_, fun V hV hVa => ?_, fun w hl haw hwK => ?_⟩
  · show NodeAt ((noneW' w1 a N K Tb mx my PX).drewN q) _ _ _ _ _ _
    refine NodeAt.drewN ?_ q
    unfold noneW'
    have n0 := hN.alloc leafObj
    have n1 := n0.set4 (.slice (some ⟨Tb, 0, none⟩) N N)
    have n2 := n1.alloc (tabObj N)
    have n3 := n2.far hTa mx PX
    have n4 := n3.far hTa my (at0 K)
    have n5 := n4.set2 ByteArray.empty
    have n6 := n5.set3 (.pointer none)
    exact n6
  · show ((noneW' w1 a N K Tb mx my PX).drewN q).cell? _ = _
    rw [cell_drewN]
    unfold noneW'
    rw [World.cell?_setCell_other _ _ _ _ (ne3 mx), World.cell?_setCell_other _ _ _ _ (ne2 mx), World.cell?_setCell_other _ _ _ _ nxy.symm]
    exact World.cell?_setCell_same _ _ _ (cz mx hmx)
  · show ((noneW' w1 a N K Tb mx my PX).drewN q).cell? _ = _
    rw [cell_drewN]
    unfold noneW'
    rw [World.cell?_setCell_other _ _ _ _ (ne3 my), World.cell?_setCell_other _ _ _ _ (ne2 my)]
    exact World.cell?_setCell_same _ _ _ ((World.cell?_setCell_other _ _ _ _ nxy).trans (cz my hmy))
  · show ((noneW' w1 a N K Tb mx my PX).drewN q).cell? _ = _
    rw [cell_drewN]
    unfold noneW'
    rw [World.cell?_setCell_other _ _ _ _ (ne3 i), World.cell?_setCell_other _ _ _ _ (ne2 i), World.cell?_setCell_other _ _ _ _ (fun e => hiy (congrArg Addr.off e).symm), World.cell?_setCell_other _ _ _ _ (fun e => hix (congrArg Addr.off e).symm)]
    exact cz i hi
  · show ((noneW' w1 a N K Tb mx my PX).drewN q).frozen? _ = _
    rw [frozen_drewN]
    unfold noneW'
    rw [World.frozen?_setCell, World.frozen?_setCell, World.frozen?_setCell, World.frozen?_setCell]
    exact fz o
  · show NodeAt ((noneW' w1 a N K Tb mx my PX).drewN q) _ _ _ _ _ _
    refine NodeAt.drewN ?_ q
    unfold noneW'
    have n0 := NodeAt.new' hK ByteArray.empty 0 ByteArray.empty (.pointer none) (.slice none 0 0) 77
    have n1 := n0.far haK 4 (.slice (some ⟨Tb, 0, none⟩) N N)
    have n2 := n1.alloc (tabObj N)
    have n3 := n2.far hTK mx PX
    have n4 := n3.far hTK my (at0 K)
    have n5 := n4.far haK 2 (.string ByteArray.empty)
    have n6 := n5.far haK 3 (.pointer none)
    exact n6
  · show RepAt ((noneW' w1 a N K Tb mx my PX).drewN q) _ _ _
    refine RepAt.drewN ?_ q
    unfold noneW'
    have n0 := hR.alloc leafObj
    have n1 := n0.set hag 4 (.slice (some ⟨Tb, 0, none⟩) N N)
    have n2 := n1.alloc (tabObj N)
    have n3 := n2.set hTg mx PX
    have n4 := n3.set hTg my (at0 K)
    have n5 := n4.set hag 2 (.string ByteArray.empty)
    have n6 := n5.set hag 3 (.pointer none)
    exact n6
  · show Tb < ((noneW' w1 a N K Tb mx my PX).drewN q).heap.size
    rw [size_drewN]
    unfold noneW'
    have : (((w1.alloc leafObj).setCell ⟨a, 4, none⟩ (.slice (some ⟨Tb, 0, none⟩) N N)).alloc (tabObj N)).heap.size = Tb + 1 := by
      show (Array.push _ _).size = _
      rw [Array.size_push, hz]
    rw [World.size_setCell, World.size_setCell, World.size_setCell, World.size_setCell, this]
    omega
  · have hVT : ¬ V.has Tb := hV.not_new (by omega)
    show Lies ((noneW' w1 a N K Tb mx my PX).drewN q) _ _ _ _
    refine Lies.drewN ?_ q
    unfold noneW'
    have n0 := hV.alloc leafObj
    have n1 := n0.set hVa 4 (.slice (some ⟨Tb, 0, none⟩) N N)
    have n2 := n1.alloc (tabObj N)
    have n3 := n2.set hVT mx PX
    have n4 := n3.set hVT my (at0 K)
    have n5 := n4.set hVa 2 (.string ByteArray.empty)
    have n6 := n5.set hVa 3 (.pointer none)
    exact n6
  · show Loc w ((noneW' w1 a N K Tb mx my PX).drewN q) _ _
    refine Loc.drewN ?_ q
    unfold noneW'
    have n0 := hl.alloc haw leafObj
    have n1 := n0.set (b := a) (o := 4) (.inl rfl) (fun _ => by decide) (.slice (some ⟨Tb, 0, none⟩) N N)
    have n2 := n1.alloc haw (tabObj N)
    have n3 := n2.set (b := Tb) (o := mx) (.inr (by omega)) (fun e => absurd e hTa) PX
    have n4 := n3.set (b := Tb) (o := my) (.inr (by omega)) (fun e => absurd e hTa) (at0 K)
    have n5 := n4.set (b := a) (o := 2) (.inl rfl) (fun _ => by decide) (.string ByteArray.empty)
    have n6 := n5.set (b := a) (o := 3) (.inl rfl) (fun _ => by decide) (.pointer none)
    exact n6

section join
variable {w W0 w' : World} {m : UInt8 → Nat} {N base a : Nat} {v val key : ByteArray} {p pr : Nat}

/-- A prefix has become a table. -/
theorem none_join {pref : ByteArray} {next X T1 : Tr} {K Tb : Nat} {x y : UInt8} {r k2 : Bs} (hT : Lies w m N base (.pre a v p pref next)) (hl : Loc w W0 a (· = a)) (hbase : base ≤ w.heap.size)
    (hK : w.heap.size ≤ K) (hTb : w.heap.size ≤ Tb) (hKT : K ≠ Tb) (hTb0 : Tb < W0.heap.size)
    (hNa : NodeAt W0 a v p ByteArray.empty (.pointer none) (.slice (some ⟨Tb, 0, none⟩) N N))
    (hcx : W0.cell? ⟨Tb, m x, none⟩ = some X.ptr) (hcy : W0.cell? ⟨Tb, m y, none⟩ = some (at0 K)) (hc : ∀ i, i < N → i ≠ m x → i ≠ m y → W0.cell? ⟨Tb, i, none⟩ = some (.pointer none)) (hfz : ∀ o, W0.frozen? ⟨Tb, o, none⟩ = false)
    (hX : Lies W0 m N base X) (hXb : ∀ b, X.has b → next.has b ∨ (w.heap.size ≤ b ∧ b ≠ K ∧ b ≠ Tb)) (hw : Wr W0 w' m N base (.leaf K ByteArray.empty 0) T1)
    (hXg : ∀ z, X.get m z = if r <+: z then next.get m (z.drop r.length) else (ByteArray.empty, 0)) (hpl : pref.data.toList = x :: r) (hkl : key.data.toList = y :: k2)
    (hT1 : T1.get m = upd ((Tr.leaf K ByteArray.empty 0).get m) k2 val pr) (hx : m x < N) (hy : m y < N) (hxy : m x ≠ m y) (hinj : Inj m N) :
    Added w m N base (.pre a v p pref next) key val pr w' := by
  obtain ⟨h1, h2, h3, h4, h5, h6, h7⟩ := hT
  have hal : a < w.heap.size := h2.lt
  have hnl := fun b (hb : next.has b) => (h7.lt b hb).2
  have hXa : ¬ X.has a := fun e => (hXb a e).elim h6 (fun h => by omega)
  have hXK : ¬ X.has K := fun e => (hXb K e).elim (fun h => by have := hnl K h; omega) (fun h => h.2.1 rfl)
  have hXT : ¬ X.has Tb := fun e => (hXb Tb e).elim (fun h => by have := hnl Tb h; omega) (fun h => h.2.2 rfl)
  have hUa : ¬ (Tr.leaf K ByteArray.empty 0).has a := fun e => by have : a = K := e; omega
  have hUT : ¬ (Tr.leaf K ByteArray.empty 0).has Tb := fun e => hKT (show Tb = K from e).symm
  have hT1sub : ∀ b, T1.has b → b = K ∨ W0.heap.size ≤ b := fun b hb => hw.sub b hb
  have hsz := hl.size
  have hKn : ∀ b, X.has b → ¬ T1.has b := fun b hb e => by
    rcases hT1sub b e with rfl | h
    · exact hXK hb
    · have := (hX.lt b hb).2; omega
  have hlies : Lies w' m N base (.tab a v p Tb (fun i => if i = m y then T1 else (fun i => if i = m x then X else Tr.nil) i)) := by
    refine ⟨h1, hw.node hNa hUa, by omega, by have := hw.size; omega, by omega, fun i hi => ?_, fun o => (World.frozen?_of_block (w := W0) (hw.kept Tb hTb0 hUT)).trans (hfz o), fun i hi => ?_, fun i => ?_, fun i j hij b hb => ?_, fun i => ?_⟩
    · rw [World.cell?_of_block (w := W0) (hw.kept Tb hTb0 hUT)]
      show _ = some (if i = m y then T1 else (if i = m x then X else Tr.nil)).ptr
      by_cases hiy : i = m y
      · rw [if_pos hiy, hiy, hcy, ptr_root (T := T1) (a := K) hw.root]
      · rw [if_neg hiy]
        by_cases hix : i = m x
        · rw [if_pos hix, hix, hcx]
        · rw [if_neg hix, hc i hi hix hiy]; rfl
    · show (if i = m y then T1 else (if i = m x then X else Tr.nil)) = _
      rw [if_neg (by omega), if_neg (by omega)]
    · show ¬ (if i = m y then T1 else (if i = m x then X else Tr.nil)).has a ∧ ¬ (if i = m y then T1 else (if i = m x then X else Tr.nil)).has Tb
      by_cases hiy : i = m y
      · rw [if_pos hiy]; exact ⟨hw.new (by omega) hUa, hw.new hTb0 hUT⟩
      · rw [if_neg hiy]
        by_cases hix : i = m x
        · rw [if_pos hix]; exact ⟨hXa, hXT⟩
        · rw [if_neg hix]; exact ⟨id, id⟩
    · have hb' : (if i = m y then T1 else (if i = m x then X else Tr.nil)).has b := hb
      show ¬ (if j = m y then T1 else (if j = m x then X else Tr.nil)).has b
      by_cases hiy : i = m y
      · rw [if_pos hiy] at hb'
        rw [if_neg (fun e => hij (hiy.trans e.symm))]
        by_cases hjx : j = m x
        · rw [if_pos hjx]; exact fun e => hKn b e hb'
        · rw [if_neg hjx]; exact id
      · rw [if_neg hiy] at hb'
        by_cases hix : i = m x
        · rw [if_pos hix] at hb'
          by_cases hjy : j = m y
          · rw [if_pos hjy]; exact hKn b hb'
          · rw [if_neg hjy, if_neg (fun e => hij (hix.trans e.symm))]; exact id
        · rw [if_neg hix] at hb'; exact hb'.elim
    · show Lies w' m N base (if i = m y then T1 else (if i = m x then X else Tr.nil))
      by_cases hiy : i = m y
      · rw [if_pos hiy]; exact hw.lies
      · rw [if_neg hiy]
        by_cases hix : i = m x
        · rw [if_pos hix]; exact hw.tree hX (fun b hb e => hXK ((show b = K from e) ▸ hb))
        · rw [if_neg hix]; trivial
  refine ⟨.tab a v p Tb (fun i => if i = m y then T1 else (fun i => if i = m x then X else Tr.nil) i), Wr.of_loc hl hw hlies rfl rfl (fun b e => .inl e) (fun b e => .inr (by have : b = K := e; omega)) (fun b hb => ?_) hal hUa, ?_, fun e => by cases e⟩
  · rcases hb with rfl | rfl | ⟨i, hb⟩
    · exact .inl (.inl rfl)
    · exact .inr hTb
    · have hb' : (if i = m y then T1 else (if i = m x then X else Tr.nil)).has b := hb
      by_cases hiy : i = m y
      · rw [if_pos hiy] at hb'
        rcases hT1sub b hb' with h | h
        · exact .inr (by omega)
        · exact .inr (by omega)
      · rw [if_neg hiy] at hb'
        by_cases hix : i = m x
        · rw [if_pos hix] at hb'
          exact (hXb b hb').elim (fun h => .inl (.inr h)) (fun h => .inr h.1)
        · rw [if_neg hix] at hb'; exact hb'.elim
  · rw [hkl, tab_pre a Tb v p pref x r next X hpl (fun z hz => hinj x z hx hz) hXg]
    refine upd_tab a Tb v p (fun i => if i = m x then X else Tr.nil) y T1 k2 val pr (fun z hz => hinj y z hy hz) ?_
    rw [hT1, leaf_get]
    show upd (Tr.nil.get m) k2 val pr = upd ((if m y = m x then X else Tr.nil).get m) k2 val pr
    rw [if_neg (fun e => hxy e.symm)]

/-- A table's child has got a key. -/
theorem tab_join {tb : Nat} {ch : Nat → Tr} {U U' : Tr} {c : Nat} {y : UInt8} {k2 : Bs} (hT : Lies w m N base (.tab a v p tb ch)) (hl : Loc w W0 a (· = tb))
    (hNa : NodeAt W0 a v p ByteArray.empty (.pointer none) (.slice (some ⟨tb, 0, none⟩) N N))
    (hcy : W0.cell? ⟨tb, m y, none⟩ = some (at0 c)) (hU : U.root = some c) (hc : ∀ i, i ≠ m y → W0.cell? ⟨tb, i, none⟩ = w.cell? ⟨tb, i, none⟩) (hfz : ∀ o, W0.frozen? ⟨tb, o, none⟩ = false)
    (hUb : ∀ b, U.has b → (ch (m y)).has b ∨ w.heap.size ≤ b) (hw : Wr W0 w' m N base U U') (hUg : U.get m = (ch (m y)).get m) (hkl : key.data.toList = y :: k2)
    (hU' : U'.get m = upd (U.get m) k2 val pr) (hy : m y < N) (hinj : Inj m N) :
    Added w m N base (.tab a v p tb ch) key val pr w' := by
  obtain ⟨h1, h2, h3, h4, h5, h6, h7, h8, h9, h10, h11⟩ := hT
  have hal : a < w.heap.size := h2.lt
  have hsz := hl.size
  have hUa : ¬ U.has a := fun e => (hUb a e).elim (h9 (m y)).1 (fun h => by omega)
  have hUT : ¬ U.has tb := fun e => (hUb tb e).elim (h9 (m y)).2 (fun h => by omega)
  have hsub : ∀ b, U'.has b → (ch (m y)).has b ∨ w.heap.size ≤ b := fun b hb => (hw.sub b hb).elim (hUb b) (fun h => .inr (by omega))
  have hoth : ∀ i, i ≠ m y → ∀ b, (ch i).has b → ¬ U.has b := fun i hi b hb e => (hUb b e).elim (h10 i (m y) hi b hb) (fun h => by have := ((h11 i).lt b hb).2; omega)
  have hlies : Lies w' m N base (.tab a v p tb (fun i => if i = m y then U' else ch i)) := by
    refine ⟨h1, hw.node hNa hUa, h3, by have := hw.size; omega, h5, fun i hi => ?_, fun o => (World.frozen?_of_block (w := W0) (hw.kept tb (by omega) hUT)).trans (hfz o), fun i hi => ?_, fun i => ?_, fun i j hij b hb => ?_, fun i => ?_⟩
    · rw [World.cell?_of_block (w := W0) (hw.kept tb (by omega) hUT)]
      show _ = some (if i = m y then U' else ch i).ptr
      by_cases hiy : i = m y
      · rw [if_pos hiy, hiy, hcy, ptr_root (T := U') (a := c) (hw.root.trans hU)]
      · rw [if_neg hiy, hc i hiy, h6 i hi]
    · show (if i = m y then U' else ch i) = _
      rw [if_neg (by omega)]; exact h8 i hi
    · show ¬ (if i = m y then U' else ch i).has a ∧ ¬ (if i = m y then U' else ch i).has tb
      by_cases hiy : i = m y
      · rw [if_pos hiy]; exact ⟨hw.new (by omega) hUa, hw.new (by omega) hUT⟩
      · rw [if_neg hiy]; exact h9 i
    · have hb' : (if i = m y then U' else ch i).has b := hb
      show ¬ (if j = m y then U' else ch j).has b
      by_cases hiy : i = m y
      · rw [if_pos hiy] at hb'
        have hjy : j ≠ m y := fun e => hij (hiy.trans e.symm)
        rw [if_neg hjy]
        exact fun e => (hsub b hb').elim (fun h => h10 j (m y) hjy b e h) (fun h => by have := ((h11 j).lt b e).2; omega)
      · rw [if_neg hiy] at hb'
        by_cases hjy : j = m y
        · rw [if_pos hjy]
          exact fun e => (hsub b e).elim (fun h => h10 i (m y) hiy b hb' h) (fun h => by have := ((h11 i).lt b hb').2; omega)
        · rw [if_neg hjy]; exact h10 i j hij b hb'
    · show Lies w' m N base (if i = m y then U' else ch i)
      by_cases hiy : i = m y
      · rw [if_pos hiy]; exact hw.lies
      · rw [if_neg hiy]
        refine hw.tree ((h11 i).same hsz (fun b hb => hl.kept b ((h11 i).lt b hb).2 (fun e => (h9 i).2 (e ▸ hb)))) (hoth i hiy)
  refine ⟨.tab a v p tb (fun i => if i = m y then U' else ch i), Wr.of_loc hl hw hlies rfl rfl (fun b e => .inr (.inl e)) (fun b e => (hUb b e).elim (fun h => .inl (.inr (.inr ⟨_, h⟩))) .inr) (fun b hb => ?_) hal hUa, ?_, fun _ => rfl⟩
  · rcases hb with rfl | rfl | ⟨i, hb⟩
    · exact .inl (.inl rfl)
    · exact .inl (.inr (.inl rfl))
    · have hb' : (if i = m y then U' else ch i).has b := hb
      by_cases hiy : i = m y
      · rw [if_pos hiy] at hb'
        exact (hsub b hb').elim (fun h => .inl (.inr (.inr ⟨_, h⟩))) .inr
      · rw [if_neg hiy] at hb'
        exact .inl (.inr (.inr ⟨i, hb'⟩))
  · rw [hkl]
    refine upd_tab a tb v p ch y U' k2 val pr (fun z hz => hinj y z hy hz) ?_
    rw [hU', hUg]
end join
end Go.Proofs.Ytnigbgablginnaa

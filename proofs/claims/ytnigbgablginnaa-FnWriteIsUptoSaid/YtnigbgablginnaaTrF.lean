/- (*trieNode).add: the contract at every key and every tree. -/
import Derived.Test.YtnigbgablginnaaTrE
set_option linter.unusedVariables false
namespace Go.Proofs.Ytnigbgablginnaa
open Go.RowKit Go.Lib

theorem add_any (m : UInt8 → Nat) (N base g pr : Nat) (val : ByteArray) (hN : N ≤ 256) (hinj : Inj m N) : ∀ (n : Nat) (key : ByteArray) (T : Tr) (a : Nat) (w : World), key.size ≤ n → key.size ≤ 140737488355328 → T.root = some a →
    Lies w m N base T → RepAt w g N m → GOk T g → (∀ c ∈ key.data.toList, m c < N) → base ≤ w.heap.size → AddAt (at0 a) key val pr g w (Added w m N base T key val pr) := by
  intro n
  induction n with
  | zero =>
    intro key T a w hk _ hr hL _ _ _ _
    obtain rfl := emptyB key (by omega)
    exact add_empty hL hr val pr g
  | succ n ih =>
    intro key T a w hkn hks hr hL hR hg hm hbase
    by_cases hk0 : key.size = 0
    · obtain rfl := emptyB key hk0
      exact add_empty hL hr val pr g
    have hk : 1 ≤ key.size := by omega
    have hkc := key_cons key hk
    have hmy : m (bt key 0) < N := hm _ (by rw [hkc]; simp)
    have hk2s : (key.extract 1 key.size).size ≤ n := by rw [ByteArray.size_extract]; omega
    have hk2t : (key.extract 1 key.size).size ≤ 140737488355328 := by rw [ByteArray.size_extract]; omega
    have hm2 : ∀ k, ∀ c ∈ (key.extract k key.size).data.toList, m c < N := fun k c hc => hm c (mem_extract hc)
    cases T with
    | nil => cases hr
    | leaf b v p =>
      cases hr
      have hL' := hL
      obtain ⟨hb, hN'⟩ := hL
      have hal := hN'.lt
      have hga : a ≠ g := fun e => by
        obtain ⟨_, _, _, _, h⟩ := hg (show g = a from e.symm)
        cases h
      refine add_leaf a g v val key p pr w _ hk hN' ?_
      have hz : ((w.setCell ⟨a, 2, none⟩ (.string key)).setCell ⟨a, 3, none⟩ (at0 w.heap.size)).heap.size = w.heap.size := by simp
      have h0 : Lies (((w.setCell ⟨a, 2, none⟩ (.string key)).setCell ⟨a, 3, none⟩ (at0 w.heap.size)).alloc (.cells (nodeCells ByteArray.empty 0 ByteArray.empty (.pointer none) (.slice none 0 0)) 77)) m N base (.leaf w.heap.size ByteArray.empty 0) := ⟨hbase, NodeAt.new' hz _ 0 _ _ _ _⟩
      have hNa := ((hN'.set2 key).set3 (at0 w.heap.size)).alloc (.cells (nodeCells ByteArray.empty 0 ByteArray.empty (.pointer none) (.slice none 0 0)) 77)
      have hl := (((Loc.refl w a (· = a)).set (b := a) (o := 2) (.inl rfl) (fun _ => by decide) (.string key)).set (b := a) (o := 3) (.inl rfl) (fun _ => by decide) (at0 w.heap.size)).alloc hal (.cells (nodeCells ByteArray.empty 0 ByteArray.empty (.pointer none) (.slice none 0 0)) 77)
      refine (add_empty h0 rfl val pr g).mono fun e w' ⟨he, T1, hw, hg1, _⟩ => ⟨he, .pre a v p key T1, ?_, ?_, fun e => by cases e⟩
      · have hUa : ¬ (Tr.leaf w.heap.size ByteArray.empty 0).has a := fun e => by have : a = w.heap.size := e; omega
        have hls : Lies w' m N base (.pre a v p key T1) := by
          have hn := hw.node hNa hUa
          rw [← show T1.ptr = at0 w.heap.size from hw.ptr] at hn
          exact ⟨hb, hn, hk, hm, ptr_ne_nil hw.root, hw.new hNa.lt hUa, hw.lies⟩
        refine Wr.of_loc hl hw hls rfl rfl (fun b e => e) (fun b e => .inr (Nat.le_of_eq (show b = w.heap.size from e).symm)) (fun b hb' => ?_) hal hUa
        rcases hb' with rfl | hb'
        · exact .inl rfl
        · rcases hw.sub b hb' with h | h
          · exact .inr (Nat.le_of_eq (show b = w.heap.size from h).symm)
          · exact .inr (Nat.le_trans hl.size h)
      · exact upd_leaf a w.heap.size v p key val pr hk T1 hg1
    | pre b v p pref next =>
      cases hr
      have hL' := hL
      obtain ⟨hb, hN', hp0, hmp, hnn, hna, hLn⟩ := hL
      have hal := hN'.lt
      have hgn : ¬ (Tr.pre a v p pref next).has g := fun e => by
        obtain ⟨_, _, _, _, h⟩ := hg e
        cases h
      have hga : a ≠ g := fun e => hgn (.inl e.symm)
      have hgnx : ¬ next.has g := fun e => hgn (.inr e)
      obtain ⟨c, hc⟩ : ∃ c, next.root = some c := by
        cases h : next.root with
        | none => exact absurd (root_none h) hnn
        | some c => exact ⟨c, rfl⟩
      obtain ⟨L, hLcp⟩ := lcp_there pref key
      have htk := lcp_take hLcp
      by_cases hLp : L = pref.size
      · subst hLp
        have hpl : pref.data.toList.take pref.size = pref.data.toList := List.take_of_length_le (by simp)
        rw [hpl] at htk
        refine add_pre_all a g v val key pref next.ptr p pr w _ hks hp0 hk hN' hLcp (fun q => ?_)
        rw [ptr_root hc]
        refine (ih (key.extract pref.size key.size) next c (w.drewN q) (by rw [ByteArray.size_extract]; omega) (by rw [ByteArray.size_extract]; omega) hc (hLn.drewN q) (hR.drewN q) (fun e => absurd e hgnx) (hm2 _) hbase).mono fun e w' ⟨he, T1, hw, hg1, _⟩ => ⟨he, .pre a v p pref T1, ?_, ?_, fun e => by cases e⟩
        · have hls : Lies w' m N base (.pre a v p pref T1) := by
            have hn := hw.node (hN'.drewN q) hna
            rw [← hw.ptr] at hn
            exact ⟨hb, hn, hp0, hmp, ptr_ne_nil (hw.root.trans hc), hw.new hal hna, hw.lies⟩
          refine Wr.of_loc ((Loc.refl w a (· = a)).drewN q) hw hls rfl rfl (fun b e => .inl e) (fun b e => .inl (.inr e)) (fun b hb' => ?_) hal hna
          rcases hb' with rfl | hb'
          · exact .inl (.inl rfl)
          · rcases hw.sub b hb' with h | h
            · exact .inl (.inr h)
            · exact .inr h
        · have := upd_pre a v p pref next T1 hp0 (key.extract pref.size key.size).data.toList val pr hg1
          rw [htk, ← cut_at] at this
          exact this
      · have hLlt : L < pref.size := by have := hLcp.1; omega
        rw [Tr.ptr_eq] at hN'
        by_cases hL0 : L = 0
        · subst hL0
          have hd : bt pref 0 ≠ bt key 0 := hLcp.2.2.2 hLlt (by omega)
          have hpc := key_cons pref (by omega)
          have hmx : m (bt pref 0) < N := hmp _ (by rw [hpc]; simp)
          have hxy : m (bt pref 0) ≠ m (bt key 0) := fun e => hd (hinj (bt key 0) (bt pref 0) hmy e)
          by_cases hp1 : pref.size = 1
          · refine add_pre_none_one a g N v val key pref _ p pr w _ m hp1 hks hk hN hN' hR hga hd hmx hmy hxy (fun q => ?_)
            have hW := none_world (base := base) (K := w.heap.size) (Tb := w.heap.size + 1) (PX := .pointer (next.root.map fun a => ⟨a, 0, none⟩)) rfl rfl hN' hR hga hmx hmy hxy q
            show AddAt (at0 w.heap.size) (key.extract 1 key.size) val pr g (noneW w a N w.heap.size (w.heap.size + 1) (m (bt pref 0)) (m (bt key 0)) (.pointer (next.root.map fun a => ⟨a, 0, none⟩)) q) _
            generalize noneW w a N w.heap.size (w.heap.size + 1) (m (bt pref 0)) (m (bt key 0)) (.pointer (next.root.map fun a => ⟨a, 0, none⟩)) q = W0 at hW ⊢
            have hl := hW.loc w (Loc.refl w a _) hal (Nat.le_refl _)
            refine (ih (key.extract 1 key.size) (.leaf w.heap.size ByteArray.empty 0) w.heap.size W0 hk2s hk2t rfl ⟨hbase, hW.leaf⟩ hW.rep (fun e => absurd (show g = w.heap.size from e) (Nat.ne_of_lt hR.lt)) (hm2 1) (Nat.le_trans hbase hl.size)).mono fun e w' ⟨he, T1, hw, hg1, _⟩ => ⟨he, ?_⟩
            have hr0 : pref.data.toList = bt pref 0 :: [] := by
              rw [hpc]; congr 1
              apply List.eq_nil_of_length_eq_zero
              rw [← Lib.size_eq, ByteArray.size_extract]; omega
            exact none_join (X := next) hL' hl hbase (Nat.le_refl _) (Nat.le_succ _) (by omega) hW.lt hW.na (by rw [Tr.ptr_eq]; exact hW.cx) hW.cy hW.ci hW.fz (hW.lies next hLn hna) (fun b hb => .inl hb) hw (tab_pre_one next) hr0 hkc hg1 hmx hmy hxy hinj
          · have hp2 : 1 < pref.size := by omega
            refine add_pre_none_more a g N v val key pref _ p pr w _ m hp2 hks hk hN hN' hR hga hd hmx hmy hxy (fun q => ?_)
            have hN1 := hN'.alloc (.cells (nodeCells ByteArray.empty 0 (pref.extract 1 pref.size) (.pointer (next.root.map fun a => ⟨a, 0, none⟩)) (.slice none 0 0)) 77)
            have hR1 := hR.alloc (.cells (nodeCells ByteArray.empty 0 (pref.extract 1 pref.size) (.pointer (next.root.map fun a => ⟨a, 0, none⟩)) (.slice none 0 0)) 77)
            have hW := none_world (base := base) (K := w.heap.size + 1) (Tb := w.heap.size + 2) (PX := at0 w.heap.size) (by exact Array.size_push _) rfl hN1 hR1 hga hmx hmy hxy q
            have hl1 := (Loc.refl w a (· = a)).alloc hal (.cells (nodeCells ByteArray.empty 0 (pref.extract 1 pref.size) (.pointer (next.root.map fun a => ⟨a, 0, none⟩)) (.slice none 0 0)) 77)
            have hX1 : Lies (w.alloc (.cells (nodeCells ByteArray.empty 0 (pref.extract 1 pref.size) (.pointer (next.root.map fun a => ⟨a, 0, none⟩)) (.slice none 0 0)) 77)) m N base (.pre w.heap.size ByteArray.empty 0 (pref.extract 1 pref.size) next) :=
              ⟨hbase, by rw [Tr.ptr_eq]; exact NodeAt.new w _ 0 _ _ _ _, by rw [ByteArray.size_extract]; omega, fun c hc => hmp c (mem_extract hc), hnn, hLn.not_new (Nat.le_refl _), hLn.alloc _⟩
            show AddAt (at0 (w.heap.size + 1)) (key.extract 1 key.size) val pr g (noneW (w.alloc (.cells (nodeCells ByteArray.empty 0 (pref.extract 1 pref.size) (.pointer (next.root.map fun a => ⟨a, 0, none⟩)) (.slice none 0 0)) 77)) a N (w.heap.size + 1) (w.heap.size + 2) (m (bt pref 0)) (m (bt key 0)) (at0 w.heap.size) q) _
            generalize noneW (w.alloc (.cells (nodeCells ByteArray.empty 0 (pref.extract 1 pref.size) (.pointer (next.root.map fun a => ⟨a, 0, none⟩)) (.slice none 0 0)) 77)) a N (w.heap.size + 1) (w.heap.size + 2) (m (bt pref 0)) (m (bt key 0)) (at0 w.heap.size) q = W0 at hW ⊢
            have hl := hW.loc w hl1 hal (Nat.le_succ _)
            refine (ih (key.extract 1 key.size) (.leaf (w.heap.size + 1) ByteArray.empty 0) (w.heap.size + 1) W0 hk2s hk2t rfl ⟨Nat.le_succ_of_le hbase, hW.leaf⟩ hW.rep (fun e => absurd (show g = w.heap.size + 1 from e) (by have := hR.lt; omega)) (hm2 1) (Nat.le_trans hbase hl.size)).mono fun e w' ⟨he, T1, hw, hg1, _⟩ => ⟨he, ?_⟩
            have hXa : ¬ (Tr.pre w.heap.size ByteArray.empty 0 (pref.extract 1 pref.size) next).has a := fun e => e.elim (fun h => by omega) hna
            exact none_join (X := .pre w.heap.size ByteArray.empty 0 (pref.extract 1 pref.size) next) hL' hl hbase (Nat.le_succ _) (by omega) (by omega) hW.lt hW.na hW.cx hW.cy hW.ci hW.fz (hW.lies _ hX1 hXa) (fun b hb => hb.elim (fun h => .inr ⟨by omega, by omega, by omega⟩) .inl) hw (tab_pre_more w.heap.size (pref.extract 1 pref.size) next (by rw [ByteArray.size_extract]; omega)) hpc hkc hg1 hmx hmy hxy hinj
        · have hL1 : 1 ≤ L := by omega
          have hLk := hLcp.2.1
          refine add_pre_split a g L v val key pref _ p pr w _ hks hp0 hk hN' hLcp hL1 hLlt (fun q => ?_)
          have haK : a ≠ w.heap.size := Nat.ne_of_lt hal
          have hU0 : Lies ((((w.alloc (.cells (nodeCells ByteArray.empty 0 (pref.extract L pref.size) (.pointer (next.root.map fun a => ⟨a, 0, none⟩)) (.slice none 0 0)) 77)).setCell ⟨a, 2, none⟩ (.string (pref.extract 0 L))).setCell ⟨a, 3, none⟩ (at0 w.heap.size)).drewN q) m N base (.pre w.heap.size ByteArray.empty 0 (pref.extract L pref.size) next) :=
            ⟨hbase, by rw [Tr.ptr_eq]; exact (((NodeAt.new w _ 0 _ _ _ _).far haK 2 _).far haK 3 _).drewN q, by rw [ByteArray.size_extract]; omega, fun c hc => hmp c (mem_extract hc), hnn, hLn.not_new (Nat.le_refl _), (((hLn.alloc _).set hna 2 _).set hna 3 _).drewN q⟩
          have hNa := (((hN'.alloc (.cells (nodeCells ByteArray.empty 0 (pref.extract L pref.size) (.pointer (next.root.map fun a => ⟨a, 0, none⟩)) (.slice none 0 0)) 77)).set2 (pref.extract 0 L)).set3 (at0 w.heap.size)).drewN q
          have hR0 := (((hR.alloc (.cells (nodeCells ByteArray.empty 0 (pref.extract L pref.size) (.pointer (next.root.map fun a => ⟨a, 0, none⟩)) (.slice none 0 0)) 77)).set hga 2 (.string (pref.extract 0 L))).set hga 3 (at0 w.heap.size)).drewN q
          have hl := ((((Loc.refl w a (· = a)).alloc hal (.cells (nodeCells ByteArray.empty 0 (pref.extract L pref.size) (.pointer (next.root.map fun a => ⟨a, 0, none⟩)) (.slice none 0 0)) 77)).set (b := a) (o := 2) (.inl rfl) (fun _ => by decide) (.string (pref.extract 0 L))).set (b := a) (o := 3) (.inl rfl) (fun _ => by decide) (at0 w.heap.size)).drewN q
          generalize (((w.alloc (.cells (nodeCells ByteArray.empty 0 (pref.extract L pref.size) (.pointer (next.root.map fun a => ⟨a, 0, none⟩)) (.slice none 0 0)) 77)).setCell ⟨a, 2, none⟩ (.string (pref.extract 0 L))).setCell ⟨a, 3, none⟩ (at0 w.heap.size)).drewN q = W0 at hU0 hNa hR0 hl ⊢
          refine (ih (key.extract L key.size) (.pre w.heap.size ByteArray.empty 0 (pref.extract L pref.size) next) w.heap.size W0 (by rw [ByteArray.size_extract]; omega) (by rw [ByteArray.size_extract]; omega) rfl hU0 hR0 (fun e => absurd e (fun e => e.elim (fun h => by have := hR.lt; omega) hgnx)) (hm2 L) (Nat.le_trans hbase hl.size)).mono fun e w' ⟨he, T1, hw, hg1, _⟩ => ⟨he, .pre a v p (pref.extract 0 L) T1, ?_, ?_, fun e => by cases e⟩
          · have hUa : ¬ (Tr.pre w.heap.size ByteArray.empty 0 (pref.extract L pref.size) next).has a := fun e => e.elim haK hna
            have hls : Lies w' m N base (.pre a v p (pref.extract 0 L) T1) := by
              have hn := hw.node hNa hUa
              rw [← show T1.ptr = at0 w.heap.size from hw.ptr] at hn
              exact ⟨hb, hn, by rw [ByteArray.size_extract]; omega, fun c hc => hmp c (mem_front hc), ptr_ne_nil hw.root, hw.new hNa.lt hUa, hw.lies⟩
            refine Wr.of_loc hl hw hls rfl rfl (fun b e => .inl e) (fun b e => e.elim (fun h => .inr (Nat.le_of_eq h.symm)) (fun h => .inl (.inr h))) (fun b hb' => ?_) hal hUa
            rcases hb' with rfl | hb'
            · exact .inl (.inl rfl)
            · rcases hw.sub b hb' with h | h
              · exact h.elim (fun h => .inr (Nat.le_of_eq h.symm)) (fun h => .inl (.inr h))
              · exact .inr (Nat.le_trans hl.size h)
          · have hs2 : 0 < (pref.extract L pref.size).size := by rw [ByteArray.size_extract]; omega
            have hs1 : 0 < (pref.extract 0 L).size := by rw [ByteArray.size_extract]; omega
            have hsp := split_pre (m := m) a w.heap.size v p pref (pref.extract 0 L) (pref.extract L pref.size) next hs1 hs2 (by rw [front_list]; exact cut_at pref L)
            have := upd_pre a v p (pref.extract 0 L) _ T1 hs1 (key.extract L key.size).data.toList val pr hg1
            rw [← hsp, front_list, htk, ← cut_at] at this
            exact this
    | tab b v p tb ch =>
      cases hr
      have hL' := hL
      obtain ⟨h1, h2, h3, h4, h5, h6, h7, h8, h9, h10, h11⟩ := hL
      have hal := h2.lt
      have htg : tb ≠ g ∧ ∀ i, ¬ (ch i).has g := by
        by_cases hag : a = g
        · subst hag; exact ⟨h5, fun i => (h9 i).1⟩
        · by_cases hgt : (Tr.tab a v p tb ch).has g
          · obtain ⟨_, _, _, _, h⟩ := hg hgt
            cases h; exact absurd rfl hag
          · exact ⟨fun e => hgt (.inr (.inl e.symm)), fun i e => hgt (.inr (.inr ⟨i, e⟩))⟩
      have hcell := h6 (m (bt key 0)) hmy
      cases hc : (ch (m (bt key 0))).root with
      | none =>
        have hnil := root_none hc
        rw [hnil] at hcell
        refine add_tab_none a g N tb v val key p pr w _ m hks hk h2 hR h5 hmy hcell (h7 _) (fun q => ?_)
        have hz : (w.setCell ⟨tb, m (bt key 0), none⟩ (at0 w.heap.size)).heap.size = w.heap.size := by simp
        have h0 : Lies (((w.setCell ⟨tb, m (bt key 0), none⟩ (at0 w.heap.size)).alloc (.cells (nodeCells ByteArray.empty 0 ByteArray.empty (.pointer none) (.slice none 0 0)) 77)).drewN q) m N base (.leaf w.heap.size ByteArray.empty 0) := ⟨hbase, (NodeAt.new' hz _ 0 _ _ _ _).drewN q⟩
        have hl := (((Loc.refl w a (· = tb)).set (b := tb) (o := m (bt key 0)) (.inl rfl) (fun e => absurd e h5) (at0 w.heap.size)).alloc hal (.cells (nodeCells ByteArray.empty 0 ByteArray.empty (.pointer none) (.slice none 0 0)) 77)).drewN q
        have hRz : RepAt (((w.setCell ⟨tb, m (bt key 0), none⟩ (at0 w.heap.size)).alloc (.cells (nodeCells ByteArray.empty 0 ByteArray.empty (.pointer none) (.slice none 0 0)) 77)).drewN q) g N m := ((hR.set htg.1 _ _).alloc _).drewN q
        refine (ih (key.extract 1 key.size) (.leaf w.heap.size ByteArray.empty 0) w.heap.size _ hk2s hk2t rfl h0 hRz (fun e => absurd (show g = w.heap.size from e) (Nat.ne_of_lt hR.lt)) (hm2 1) (by have := hl.size; omega)).mono fun e w' ⟨he, T1, hw, hg1, _⟩ => ⟨he, ?_⟩
        have hnew : tb < (w.setCell ⟨tb, m (bt key 0), none⟩ (at0 w.heap.size)).heap.size := by rw [hz]; exact h4
        refine tab_join (U := .leaf w.heap.size ByteArray.empty 0) hL' hl (((h2.far h5 _ _).alloc _).drewN q) ?_ rfl (fun i hi => ?_) (fun o => ?_) (fun b e => .inr (Nat.le_of_eq (show b = w.heap.size from e).symm)) hw (by rw [hnil]; exact leaf_get m _) hkc hg1 hmy hinj
        · exact (World.cell?_alloc_lt _ _ _ hnew).trans (World.cell?_setCell_same _ _ _ hcell)
        · exact (World.cell?_alloc_lt _ _ _ hnew).trans (World.cell?_setCell_other _ _ _ _ (fun e => hi (congrArg Addr.off e).symm))
        · exact (World.frozen?_alloc_old _ _ _ (Nat.ne_of_lt hnew)).trans (by rw [World.frozen?_setCell]; exact h7 o)
      | some c =>
        rw [ptr_root hc] at hcell
        refine add_tab_some a g N tb v val key p pr w _ m ⟨c, 0, none⟩ hks hk h2 hR hmy hcell (fun q => ?_)
        refine (ih (key.extract 1 key.size) (ch (m (bt key 0))) c (w.drewN q) hk2s hk2t hc ((h11 _).drewN q) (hR.drewN q) (fun e => absurd e (htg.2 _)) (hm2 1) hbase).mono fun e w' ⟨he, T1, hw, hg1, _⟩ => ⟨he, ?_⟩
        exact tab_join hL' ((Loc.refl w a (· = tb)).drewN q) (h2.drewN q) hcell hc (fun i _ => rfl) h7 (fun b e => .inl e) hw rfl hkc hg1 hmy hinj
end Go.Proofs.Ytnigbgablginnaa

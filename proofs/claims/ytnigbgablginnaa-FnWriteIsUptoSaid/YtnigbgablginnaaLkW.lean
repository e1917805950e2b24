/- (*genericReplacer).lookup: the walk (printed by mkLk.py). -/
import Derived.Test.YtnigbgablginnaaLk
set_option linter.unusedVariables false
namespace Go.Proofs.Ytnigbgablginnaa
open Go.RowKit Go.Lib

theorem bt_drop (s x : ByteArray) (n : Nat) (h : x = s.extract n s.size) : bt x 0 = bt s n := by
  subst h
  unfold bt
  rw [show (s.extract n s.size).data.toList = s.data.toList.drop n from Lib.extract_to_end .., List.getD_eq_getElem?_getD, List.getD_eq_getElem?_getD, List.getElem?_drop, Nat.add_zero]
theorem ext_ext (s x : ByteArray) (n k : Nat) (h : x = s.extract n s.size) : x.extract k x.size = s.extract (n + k) s.size := by
  subst h
  apply ba_eq
  rw [show ((s.extract n s.size).extract k (s.extract n s.size).size).data.toList = (s.extract n s.size).data.toList.drop k from Lib.extract_to_end .., show (s.extract n s.size).data.toList = s.data.toList.drop n from Lib.extract_to_end .., show (s.extract (n + k) s.size).data.toList = s.data.toList.drop (n + k) from Lib.extract_to_end .., List.drop_drop]
theorem ext_list (s x : ByteArray) (n : Nat) (h : x = s.extract n s.size) : x.data.toList = s.data.toList.drop n := by subst h; exact Lib.extract_to_end ..
theorem hasPrefixB (s p : ByteArray) (w : World) (hs : s.size < 140737488355328) :
    Calls Try.prog 64 #[.string s, .string p] w fun e w' => e = .returned (.bool (p.data.toList.isPrefixOf s.data.toList)) ∧ w = w' := by
  by_cases h : p.size ≤ s.size
  · exact hasPrefix s p w hs (by omega)
  · have H : Hid (p.data.toList.isPrefixOf s.data.toList = false) := Lib.hid (by
      rw [Bool.eq_false_iff]
      intro e
      have := (List.isPrefixOf_iff_prefix.1 e).length_le
      rw [← Lib.size_eq, ← Lib.size_eq] at this
      exact h this)
    go_enter Try.func64, Try.ntmps64
    go_wp2
    go_ret
    exact ⟨ret_bool H.out.symm, rfl⟩

def LkRel (w : World) (F : Bs → ByteArray × Nat) (m : UInt8 → Nat) (N base g : Nat) (s : ByteArray) (e : Bool) (Tn : Tr) (n bp : Nat) (val : ByteArray) (kl : Nat) (found : Bool) : Prop :=
  Stands F m Tn s.data.toList n ∧ Best F s.data.toList e n bp val kl found ∧ Lies w m N base Tn ∧ AtRoot Tn g n

set_option maxRecDepth 100000 in
set_option maxHeartbeats 8000000 in
theorem genLookup (g base L N : Nat) (qs : List BB) (m : UInt8 → Nat) (T : Tr) (s : ByteArray) (ig : Bool) (w : World) (hG : GenOk w g base qs L m N T) (hL : 2 * qs.length ≤ L) (hs : s.size < 140737488355328) :
    Calls Try.prog 54 #[at0 g, .string s, .bool ig] w (LookR qs s (!ig) w) := by
  have qT := fun (w : World) (a : Option Addr) (n c n' c' : Nat) => run_neq_slice_nil_any w 75 _ a n c n' c' Try.underlying75
  obtain ⟨F, hF⟩ : ∃ F, F = T.get m := ⟨_, rfl⟩
  have HFI : Hid (∀ (bp : Nat) (val : ByteArray) (kl : Nat) (found : Bool), Best F s.data.toList (!ig) (s.data.toList.length + 1) bp val kl found → Value.tuple #[.string val, .int .i64 kl, .bool found] = lookV (firstP (qs.map tb) s.data.toList (!ig))) := Lib.hid (fun bp val kl found h => look_of (by rw [hF]; exact hG.holds) hL h)
  have H0 : Hid (LkRel w F m N base g s (!ig) T 0 0 ByteArray.empty 0 false) := Lib.hid ⟨⟨Nat.zero_le _, fun x => by rw [hF]; rfl⟩, Best.zero _ _ _, hG.lies, .inl ⟨rfl, hG.root⟩⟩
  have hmN := hG.mN
  have HM5 := Lib.hid hG.m255
  have hrep := hG.rep
  obtain ⟨_, _, _, _, hroot⟩ := hG.lies.node hG.root
  have hfg := hroot.nf
  have HREP := Lib.hid hrep
  have HFG := Lib.hid hfg
  have HMN := Lib.hid hmN
  have hsl : s.data.toList.length = s.size := by simp
  have HSL := Lib.hid hsl
  have hptr := ptr_root hG.root
  have HPT := Lib.hid hptr
  clear hG hF hmN hrep hroot hfg hsl hptr
  go_enter Try.func54, Try.ntmps54
  go_wp2_with fail
  go_loopw [1, 6, 7, 8, 9, 10, 11] (fun sv vv kv fv bv nv iv wr => ∃ (n bp kl q : Nat) (x val : ByteArray) (found : Bool) (Tn : Tr), sv = .string x ∧ vv = .string val ∧ kv = .int .i64 kl ∧ fv = .bool found ∧ bv = .int .i64 bp ∧ nv = Tn.ptr ∧ iv = .int .i64 n ∧ n ≤ s.size ∧ wr = w.drewN q ∧ Hid (x = s.extract n s.size) ∧ Hid (LkRel w F m N base g s (!ig) Tn n bp val kl found)) (fun _ _ _ _ _ _ iv _ => s.size - (RowKit.intOf iv).toNat)
  case atStart => exact ⟨0, 0, 0, 0, s, ByteArray.empty, false, T, rfl, rfl, rfl, rfl, rfl, HPT.out.symm, rfl, Nat.zero_le _, rfl, Lib.hid (by simp), H0⟩
  case round =>
    clear H0
    obtain ⟨n, bp, kl, q, x, val, found, Tn, rfl, rfl, rfl, rfl, rfl, rfl, rfl, hn, rfl, HX, HR⟩ := hrel
    have hxs : x.size = s.size - n := by rw [HX.out, ByteArray.size_extract]; omega
    have HXS := Lib.hid hxs
    have hxb : x.size < 140737488355328 := by omega
    clear hxs
    cases hTr : Tn.root with
    | none =>
      have HTn := Lib.hid (root_none hTr)
      have hpt : Tn.ptr = .pointer none := by rw [HTn.out]; rfl
      rw [hpt]
      clear hTr hpt
      have HE : Hid (Best F s.data.toList (!ig) (s.data.toList.length + 1) bp val kl found) := Lib.hid (HR.out.2.1.far (by rw [HSL.out]; omega) (fun i hi hi2 hr => by
        rw [HR.out.1.at i hi, HTn.out, Tr.get_nil]; exact Nat.zero_le _))
      go_wp2_with fail
      go_ret3
      exact ⟨q, congrArg Ending.returned (HFI.out _ _ _ _ HE.out), rfl⟩
    | some a =>
      obtain ⟨v, pref, nx, tbl, hNd0⟩ := HR.out.2.2.1.node hTr
      have hNd := hNd0
      have hpt := ptr_root hTr
      rw [hpt]
      have HF0 : Hid (F (s.data.toList.take n) = (v, Tn.prio)) := Lib.hid (by
        rw [HR.out.1.here]
        exact Prod.ext (get_val HR.out.2.2.1 hTr hNd0) get_prio)
      obtain ⟨p, hp⟩ : ∃ p, p = Tn.prio := ⟨_, rfl⟩
      rw [← hp] at HF0 hNd hNd0
      have HTr := Lib.hid hTr
      clear hp hpt hTr
      have c0 := hNd.c0
      have c1 := hNd.c1
      have HNd := Lib.hid hNd
      clear hNd hNd0
      by_cases hend : n = s.size
      · have hx0 := emptyB x (by rw [HXS.out]; omega)
        subst hx0
        by_cases hlt : bp < p
        · cases ig with
          | false =>
            have hb1 : decide ((bp : Int) < (p : Int)) = true := decide_eq_true (by omega)
            have hb2 : decide (bp < p) = true := decide_eq_true (by omega)
            have HB1 : Hid (Best F s.data.toList (!false) (n + 1) p v n true) := Lib.hid (HR.out.2.1.take (.inl rfl) HF0.out hlt)
            go_wp2_with fail
            go_ret3
            exact ⟨_, congrArg Ending.returned (HFI.out _ _ _ _ (HB1.out.far (by have := HSL.out; omega) (fun i hi hi2 hr => by have := HSL.out; omega))), rfl⟩
          | true =>
            by_cases hn0 : n = 0
            · have hb1 : decide ((bp : Int) < (p : Int)) = true := decide_eq_true (by omega)
              have hb2 : decide (bp < p) = true := decide_eq_true (by omega)
              have hag : a = g := by
                rcases HR.out.2.2.2 with ⟨_, h⟩ | ⟨h, _⟩
                · exact Option.some.inj (HTr.out.symm.trans h)
                · omega
              have hpe := ptr_eql_same (w.drewN q) ⟨g, 0, none⟩
              have HB1 : Hid (Best F s.data.toList (!true) (n + 1) bp val kl found) := Lib.hid (HR.out.2.1.far (Nat.le_succ n) (fun i hi hi2 hr => by
                rcases hr with h | h
                · cases h
                · omega))
              subst hag
              go_wp2_with fail
              go_ret3
              exact ⟨_, congrArg Ending.returned (HFI.out _ _ _ _ (HB1.out.far (by have := HSL.out; omega) (fun i hi hi2 hr => by have := HSL.out; omega))), rfl⟩
            · have hb1 : decide ((bp : Int) < (p : Int)) = true := decide_eq_true (by omega)
              have hb2 : decide (bp < p) = true := decide_eq_true (by omega)
              have hag : a ≠ g := by
                rcases HR.out.2.2.2 with ⟨h, _⟩ | ⟨_, h⟩
                · omega
                · exact fun e => h (e ▸ Tr.has_root HTr.out)
              have hpe := ptr_eql_other (w := w.drewN q) hag c1 (HREP.out.drewN q).size HNd.out.nf HFG.out
              have HB1 : Hid (Best F s.data.toList (!true) (n + 1) p v n true) := Lib.hid (HR.out.2.1.take (.inr (by omega)) HF0.out hlt)
              have HAG := Lib.hid hag
              clear hag
              go_wp2_with fail
              go_ret3
              exact ⟨_, congrArg Ending.returned (HFI.out _ _ _ _ (HB1.out.far (by have := HSL.out; omega) (fun i hi hi2 hr => by have := HSL.out; omega))), rfl⟩
        · have hb1 : decide ((bp : Int) < (p : Int)) = false := decide_eq_false (by omega)
          have hb2 : decide (bp < p) = false := decide_eq_false (by omega)
          have HB1 : Hid (Best F s.data.toList (!ig) (n + 1) bp val kl found) := Lib.hid (HR.out.2.1.far (Nat.le_succ n) (fun i hi hi2 hr => by
            obtain rfl : i = n := by omega
            rw [HF0.out]; show p ≤ bp; omega))
          go_wp2_with fail
          go_ret3
          exact ⟨_, congrArg Ending.returned (HFI.out _ _ _ _ (HB1.out.far (by have := HSL.out; omega) (fun i hi hi2 hr => by have := HSL.out; omega))), rfl⟩
      · have hx1 : 1 ≤ x.size := by rw [HXS.out]; omega
        have hxn : x.size = s.size - n := HXS.out
        have HXN := Lib.hid hxn
        clear hxn
        have hne := neB hx1
        have hnlt : n < s.size := by omega
        have hdb := drop_bt s n hnlt
        have HDB := Lib.hid hdb
        clear hdb
        cases Tn with
        | nil => have := HTr.out; cases this
        | leaf b v' p' =>
          obtain ⟨hb, hN⟩ := HR.out.2.2.1
          obtain rfl : a = b := (Option.some.inj HTr.out).symm
          have hN' := hN
          have c2 := hN'.c2
          have c4 := hN'.c4
          have HZ := Lib.hid HR.out.1.none_leaf
          rw [HSL.out] at HZ
          clear hN hN'
          by_cases hlt : bp < p
          · cases ig with
            | false =>
              have hb1 : decide ((bp : Int) < (p : Int)) = true := decide_eq_true (by omega)
              have hb2 : decide (bp < p) = true := decide_eq_true (by omega)
              have HB1 : Hid (Best F s.data.toList (!false) (n + 1) p v n true) := Lib.hid (HR.out.2.1.take (.inl rfl) HF0.out hlt)
              go_wp2_with fail
              go_ret3
              exact ⟨_, congrArg Ending.returned (HFI.out _ _ _ _ (HB1.out.far (by have := HSL.out; omega) (fun i hi hi2 hr => by rw [HZ.out i (by omega) (by have := HSL.out; omega)]; exact Nat.zero_le _))), rfl⟩
            | true =>
              by_cases hn0 : n = 0
              · have hb1 : decide ((bp : Int) < (p : Int)) = true := decide_eq_true (by omega)
                have hb2 : decide (bp < p) = true := decide_eq_true (by omega)
                have hag : a = g := by
                  rcases HR.out.2.2.2 with ⟨_, h⟩ | ⟨h, _⟩
                  · exact Option.some.inj (HTr.out.symm.trans h)
                  · omega
                have hpe := ptr_eql_same (w.drewN q) ⟨g, 0, none⟩
                have HB1 : Hid (Best F s.data.toList (!true) (n + 1) bp val kl found) := Lib.hid (HR.out.2.1.far (Nat.le_succ n) (fun i hi hi2 hr => by
                  rcases hr with h | h
                  · cases h
                  · omega))
                subst hag
                go_wp2_with fail
                go_ret3
                exact ⟨_, congrArg Ending.returned (HFI.out _ _ _ _ (HB1.out.far (by have := HSL.out; omega) (fun i hi hi2 hr => by rw [HZ.out i (by omega) (by have := HSL.out; omega)]; exact Nat.zero_le _))), rfl⟩
              · have hb1 : decide ((bp : Int) < (p : Int)) = true := decide_eq_true (by omega)
                have hb2 : decide (bp < p) = true := decide_eq_true (by omega)
                have hag : a ≠ g := by
                  rcases HR.out.2.2.2 with ⟨h, _⟩ | ⟨_, h⟩
                  · omega
                  · exact fun e => h (e ▸ Tr.has_root HTr.out)
                have hpe := ptr_eql_other (w := w.drewN q) hag c1 (HREP.out.drewN q).size HNd.out.nf HFG.out
                have HB1 : Hid (Best F s.data.toList (!true) (n + 1) p v n true) := Lib.hid (HR.out.2.1.take (.inr (by omega)) HF0.out hlt)
                have HAG := Lib.hid hag
                clear hag
                go_wp2_with fail
                go_ret3
                exact ⟨_, congrArg Ending.returned (HFI.out _ _ _ _ (HB1.out.far (by have := HSL.out; omega) (fun i hi hi2 hr => by rw [HZ.out i (by omega) (by have := HSL.out; omega)]; exact Nat.zero_le _))), rfl⟩
          · have hb1 : decide ((bp : Int) < (p : Int)) = false := decide_eq_false (by omega)
            have hb2 : decide (bp < p) = false := decide_eq_false (by omega)
            have HB1 : Hid (Best F s.data.toList (!ig) (n + 1) bp val kl found) := Lib.hid (HR.out.2.1.far (Nat.le_succ n) (fun i hi hi2 hr => by
              obtain rfl : i = n := by omega
              rw [HF0.out]; show p ≤ bp; omega))
            go_wp2_with fail
            go_ret3
            exact ⟨_, congrArg Ending.returned (HFI.out _ _ _ _ (HB1.out.far (by have := HSL.out; omega) (fun i hi hi2 hr => by rw [HZ.out i (by omega) (by have := HSL.out; omega)]; exact Nat.zero_le _))), rfl⟩
        | pre b v' p' pref' next =>
          obtain ⟨hb, hN, hp0, hmp, hnn, hna, hLn⟩ := HR.out.2.2.1
          obtain rfl : a = b := (Option.some.inj HTr.out).symm
          have hN' := hN
          have c2 := hN'.c2
          have c3 := hN'.c3
          have c4 := hN'.c4
          have hpe0 := neB hp0
          have HPP : Hid (pref = pref') := Lib.hid (Value.string.inj (Option.some.inj (HNd.out.c2.symm.trans hN'.c2)))
          rw [← HPP.out] at c2 hpe0
          have HN := Lib.hid hN
          clear hN hN'
          by_cases hpre : pref.data.toList <+: s.data.toList.drop n
          · have HP0 : Hid (pref.data.toList.isPrefixOf x.data.toList = true) := Lib.hid (by rw [ext_list s x n HX.out, List.isPrefixOf_iff_prefix]; exact hpre)
            have hpz : pref.size + n ≤ s.size := by
              have := hpre.length_le
              rw [← Lib.size_eq, List.length_drop, HSL.out] at this; omega
            have hpx : pref.size ≤ x.size := by rw [HXN.out]; omega
            have hpx' : (pref.size : Int) ≤ (x.size : Int) := by omega
            have hp1 : 1 ≤ pref.size := by rw [HPP.out]; exact hp0
            obtain ⟨U, hU⟩ : ∃ U, U = next := ⟨_, rfl⟩
            rw [← hU] at c3
            have hs2 := HR.out.1.pre hp0 (by rw [← HPP.out]; exact hpre)
            rw [← HPP.out, ← hU] at hs2
            have HZ := Lib.hid hs2.2
            have HU : Hid (Stands F m U s.data.toList (n + pref.size) ∧ Lies w m N base U ∧ AtRoot U g (n + pref.size)) := Lib.hid ⟨hs2.1, hU ▸ hLn, .inr ⟨by omega, by
              rw [hU]
              rcases HR.out.2.2.2 with ⟨_, h⟩ | ⟨_, h⟩
              · have : a = g := Option.some.inj h
                exact this ▸ hna
              · exact fun e => h (.inr e)⟩⟩
            clear hs2 hpre hU
            by_cases hlt : bp < p
            · cases ig with
              | false =>
                have hb1 : decide ((bp : Int) < (p : Int)) = true := decide_eq_true (by omega)
                have hb2 : decide (bp < p) = true := decide_eq_true (by omega)
                have HB1 : Hid (Best F s.data.toList (!false) (n + 1) p v n true) := Lib.hid (HR.out.2.1.take (.inl rfl) HF0.out hlt)
                go_wp2_with (go_at_call 64; refine (hasPrefixB x pref _ (by omega)).mono ?_; rintro e w' ⟨rfl, rfl⟩; rw [HP0.out])
                go_roundw
                case rel => exact ⟨n + pref.size, _, _, _, _, _, _, U, rfl, rfl, (by go_num), rfl, rfl, rfl, by go_num, by omega, rfl, Lib.hid (ext_ext s x n pref.size HX.out), Lib.hid ⟨HU.out.1, HB1.out.far (by omega) (fun i hi hi2 hr => by rw [HZ.out i (by omega) (by omega)]; exact Nat.zero_le _), HU.out.2.1, HU.out.2.2⟩⟩
                case measure => simp [RowKit.intOf]; omega
              | true =>
                by_cases hn0 : n = 0
                · have hb1 : decide ((bp : Int) < (p : Int)) = true := decide_eq_true (by omega)
                  have hb2 : decide (bp < p) = true := decide_eq_true (by omega)
                  have hag : a = g := by
                    rcases HR.out.2.2.2 with ⟨_, h⟩ | ⟨h, _⟩
                    · exact Option.some.inj (HTr.out.symm.trans h)
                    · omega
                  have hpe := ptr_eql_same (w.drewN q) ⟨g, 0, none⟩
                  have HB1 : Hid (Best F s.data.toList (!true) (n + 1) bp val kl found) := Lib.hid (HR.out.2.1.far (Nat.le_succ n) (fun i hi hi2 hr => by
                    rcases hr with h | h
                    · cases h
                    · omega))
                  subst hag
                  go_wp2_with (go_at_call 64; refine (hasPrefixB x pref _ (by omega)).mono ?_; rintro e w' ⟨rfl, rfl⟩; rw [HP0.out])
                  go_roundw
                  case rel => exact ⟨n + pref.size, _, _, _, _, _, _, U, rfl, rfl, (by go_num), rfl, rfl, rfl, by go_num, by omega, rfl, Lib.hid (ext_ext s x n pref.size HX.out), Lib.hid ⟨HU.out.1, HB1.out.far (by omega) (fun i hi hi2 hr => by rw [HZ.out i (by omega) (by omega)]; exact Nat.zero_le _), HU.out.2.1, HU.out.2.2⟩⟩
                  case measure => simp [RowKit.intOf]; omega
                · have hb1 : decide ((bp : Int) < (p : Int)) = true := decide_eq_true (by omega)
                  have hb2 : decide (bp < p) = true := decide_eq_true (by omega)
                  have hag : a ≠ g := by
                    rcases HR.out.2.2.2 with ⟨h, _⟩ | ⟨_, h⟩
                    · omega
                    · exact fun e => h (e ▸ Tr.has_root HTr.out)
                  have hpe := ptr_eql_other (w := w.drewN q) hag c1 (HREP.out.drewN q).size HNd.out.nf HFG.out
                  have HB1 : Hid (Best F s.data.toList (!true) (n + 1) p v n true) := Lib.hid (HR.out.2.1.take (.inr (by omega)) HF0.out hlt)
                  have HAG := Lib.hid hag
                  clear hag
                  go_wp2_with (go_at_call 64; refine (hasPrefixB x pref _ (by omega)).mono ?_; rintro e w' ⟨rfl, rfl⟩; rw [HP0.out])
                  go_roundw
                  case rel => exact ⟨n + pref.size, _, _, _, _, _, _, U, rfl, rfl, (by go_num), rfl, rfl, rfl, by go_num, by omega, rfl, Lib.hid (ext_ext s x n pref.size HX.out), Lib.hid ⟨HU.out.1, HB1.out.far (by omega) (fun i hi hi2 hr => by rw [HZ.out i (by omega) (by omega)]; exact Nat.zero_le _), HU.out.2.1, HU.out.2.2⟩⟩
                  case measure => simp [RowKit.intOf]; omega
            · have hb1 : decide ((bp : Int) < (p : Int)) = false := decide_eq_false (by omega)
              have hb2 : decide (bp < p) = false := decide_eq_false (by omega)
              have HB1 : Hid (Best F s.data.toList (!ig) (n + 1) bp val kl found) := Lib.hid (HR.out.2.1.far (Nat.le_succ n) (fun i hi hi2 hr => by
                obtain rfl : i = n := by omega
                rw [HF0.out]; show p ≤ bp; omega))
              go_wp2_with (go_at_call 64; refine (hasPrefixB x pref _ (by omega)).mono ?_; rintro e w' ⟨rfl, rfl⟩; rw [HP0.out])
              go_roundw
              case rel => exact ⟨n + pref.size, _, _, _, _, _, _, U, rfl, rfl, (by go_num), rfl, rfl, rfl, by go_num, by omega, rfl, Lib.hid (ext_ext s x n pref.size HX.out), Lib.hid ⟨HU.out.1, HB1.out.far (by omega) (fun i hi hi2 hr => by rw [HZ.out i (by omega) (by omega)]; exact Nat.zero_le _), HU.out.2.1, HU.out.2.2⟩⟩
              case measure => simp [RowKit.intOf]; omega
          · have HP0 : Hid (pref.data.toList.isPrefixOf x.data.toList = false) := Lib.hid (by rw [ext_list s x n HX.out, Bool.eq_false_iff]; exact fun e => hpre (List.isPrefixOf_iff_prefix.1 e))
            have HZ := Lib.hid (HR.out.1.none_pre (by rw [← HPP.out]; exact hpre))
            rw [HSL.out] at HZ
            clear hpre
            by_cases hlt : bp < p
            · cases ig with
              | false =>
                have hb1 : decide ((bp : Int) < (p : Int)) = true := decide_eq_true (by omega)
                have hb2 : decide (bp < p) = true := decide_eq_true (by omega)
                have HB1 : Hid (Best F s.data.toList (!false) (n + 1) p v n true) := Lib.hid (HR.out.2.1.take (.inl rfl) HF0.out hlt)
                go_wp2_with (go_at_call 64; refine (hasPrefixB x pref _ (by omega)).mono ?_; rintro e w' ⟨rfl, rfl⟩; rw [HP0.out])
                go_ret3
                exact ⟨_, congrArg Ending.returned (HFI.out _ _ _ _ (HB1.out.far (by have := HSL.out; omega) (fun i hi hi2 hr => by rw [HZ.out i (by omega) (by have := HSL.out; omega)]; exact Nat.zero_le _))), rfl⟩
              | true =>
                by_cases hn0 : n = 0
                · have hb1 : decide ((bp : Int) < (p : Int)) = true := decide_eq_true (by omega)
                  have hb2 : decide (bp < p) = true := decide_eq_true (by omega)
                  have hag : a = g := by
                    rcases HR.out.2.2.2 with ⟨_, h⟩ | ⟨h, _⟩
                    · exact Option.some.inj (HTr.out.symm.trans h)
                    · omega
                  have hpe := ptr_eql_same (w.drewN q) ⟨g, 0, none⟩
                  have HB1 : Hid (Best F s.data.toList (!true) (n + 1) bp val kl found) := Lib.hid (HR.out.2.1.far (Nat.le_succ n) (fun i hi hi2 hr => by
                    rcases hr with h | h
                    · cases h
                    · omega))
                  subst hag
                  go_wp2_with (go_at_call 64; refine (hasPrefixB x pref _ (by omega)).mono ?_; rintro e w' ⟨rfl, rfl⟩; rw [HP0.out])
                  go_ret3
                  exact ⟨_, congrArg Ending.returned (HFI.out _ _ _ _ (HB1.out.far (by have := HSL.out; omega) (fun i hi hi2 hr => by rw [HZ.out i (by omega) (by have := HSL.out; omega)]; exact Nat.zero_le _))), rfl⟩
                · have hb1 : decide ((bp : Int) < (p : Int)) = true := decide_eq_true (by omega)
                  have hb2 : decide (bp < p) = true := decide_eq_true (by omega)
                  have hag : a ≠ g := by
                    rcases HR.out.2.2.2 with ⟨h, _⟩ | ⟨_, h⟩
                    · omega
                    · exact fun e => h (e ▸ Tr.has_root HTr.out)
                  have hpe := ptr_eql_other (w := w.drewN q) hag c1 (HREP.out.drewN q).size HNd.out.nf HFG.out
                  have HB1 : Hid (Best F s.data.toList (!true) (n + 1) p v n true) := Lib.hid (HR.out.2.1.take (.inr (by omega)) HF0.out hlt)
                  have HAG := Lib.hid hag
                  clear hag
                  go_wp2_with (go_at_call 64; refine (hasPrefixB x pref _ (by omega)).mono ?_; rintro e w' ⟨rfl, rfl⟩; rw [HP0.out])
                  go_ret3
                  exact ⟨_, congrArg Ending.returned (HFI.out _ _ _ _ (HB1.out.far (by have := HSL.out; omega) (fun i hi hi2 hr => by rw [HZ.out i (by omega) (by have := HSL.out; omega)]; exact Nat.zero_le _))), rfl⟩
            · have hb1 : decide ((bp : Int) < (p : Int)) = false := decide_eq_false (by omega)
              have hb2 : decide (bp < p) = false := decide_eq_false (by omega)
              have HB1 : Hid (Best F s.data.toList (!ig) (n + 1) bp val kl found) := Lib.hid (HR.out.2.1.far (Nat.le_succ n) (fun i hi hi2 hr => by
                obtain rfl : i = n := by omega
                rw [HF0.out]; show p ≤ bp; omega))
              go_wp2_with (go_at_call 64; refine (hasPrefixB x pref _ (by omega)).mono ?_; rintro e w' ⟨rfl, rfl⟩; rw [HP0.out])
              go_ret3
              exact ⟨_, congrArg Ending.returned (HFI.out _ _ _ _ (HB1.out.far (by have := HSL.out; omega) (fun i hi hi2 hr => by rw [HZ.out i (by omega) (by have := HSL.out; omega)]; exact Nat.zero_le _))), rfl⟩
        | tab b v' p' tb ch =>
          obtain ⟨h1, h2, h3, h4, h5, h6, h7, h8, h9, h10, h11⟩ := HR.out.2.2.1
          obtain rfl : a = b := (Option.some.inj HTr.out).symm
          have hN' := h2
          have c4 := hN'.c4
          have i0 : 0 < x.size := hx1
          have w6 := idx_run x 0 0 rfl i0
          rw [← bt_at x 0 i0, bt_drop s x n HX.out] at w6
          have gy := HREP.out.map (bt s n)
          have g5 := HREP.out.size
          have hmle := HMN.out (bt s n)
          have hm5 := HM5.out (bt s n)
          have hx1' : (1 : Int) ≤ (x.size : Int) := by omega
          obtain ⟨y, hy⟩ : ∃ y, y = bt s n := ⟨_, rfl⟩
          rw [← hy] at w6 gy hmle hm5
          have y256 := y.toNat_lt
          have HY := Lib.hid hy
          obtain ⟨my, hmy⟩ : ∃ my, my = m y := ⟨_, rfl⟩
          rw [← hmy] at gy hmle hm5
          have HMY := Lib.hid hmy
          have my0 : (0 : Int) ≤ (my : Int) := by omega
          have my5 : (my : Int) ≤ 255 := by omega
          clear hN' hy hmy
          by_cases hmN : my = N
          · have hb3 : ((my : Int) == (N : Int)) = true := by rw [hmN]; simp
            have HZ : Hid (∀ i, n < i → i ≤ s.size → (F (s.data.toList.take i)).2 = 0) := Lib.hid (by
              have := HR.out.1.none_tab (HDB.out.trans (by rw [← HY.out])) (h8 (m y) (by rw [← HMY.out, hmN]; exact Nat.le_refl _))
              rwa [HSL.out] at this)
            clear h1 h2 h3 h4 h5 h6 h7 h8 h9 h10 h11
            obtain rfl : N = my := hmN.symm
            clear hmN hb3
            by_cases hlt : bp < p
            · cases ig with
              | false =>
                have hb1 : decide ((bp : Int) < (p : Int)) = true := decide_eq_true (by omega)
                have hb2 : decide (bp < p) = true := decide_eq_true (by omega)
                have HB1 : Hid (Best F s.data.toList (!false) (n + 1) p v n true) := Lib.hid (HR.out.2.1.take (.inl rfl) HF0.out hlt)
                go_wp2_with fail
                go_quiet (fail)
                clear w6
                go_wp2_with fail
                go_ret3
                exact ⟨_, congrArg Ending.returned (HFI.out _ _ _ _ (HB1.out.far (by have := HSL.out; omega) (fun i hi hi2 hr => by rw [HZ.out i (by omega) (by have := HSL.out; omega)]; exact Nat.zero_le _))), rfl⟩
              | true =>
                by_cases hn0 : n = 0
                · have hb1 : decide ((bp : Int) < (p : Int)) = true := decide_eq_true (by omega)
                  have hb2 : decide (bp < p) = true := decide_eq_true (by omega)
                  have hag : a = g := by
                    rcases HR.out.2.2.2 with ⟨_, h⟩ | ⟨h, _⟩
                    · exact Option.some.inj (HTr.out.symm.trans h)
                    · omega
                  have hpe := ptr_eql_same (w.drewN q) ⟨g, 0, none⟩
                  have HB1 : Hid (Best F s.data.toList (!true) (n + 1) bp val kl found) := Lib.hid (HR.out.2.1.far (Nat.le_succ n) (fun i hi hi2 hr => by
                    rcases hr with h | h
                    · cases h
                    · omega))
                  subst hag
                  go_wp2_with fail
                  go_quiet (fail)
                  clear w6
                  go_wp2_with fail
                  go_ret3
                  exact ⟨_, congrArg Ending.returned (HFI.out _ _ _ _ (HB1.out.far (by have := HSL.out; omega) (fun i hi hi2 hr => by rw [HZ.out i (by omega) (by have := HSL.out; omega)]; exact Nat.zero_le _))), rfl⟩
                · have hb1 : decide ((bp : Int) < (p : Int)) = true := decide_eq_true (by omega)
                  have hb2 : decide (bp < p) = true := decide_eq_true (by omega)
                  have hag : a ≠ g := by
                    rcases HR.out.2.2.2 with ⟨h, _⟩ | ⟨_, h⟩
                    · omega
                    · exact fun e => h (e ▸ Tr.has_root HTr.out)
                  have hpe := ptr_eql_other (w := w.drewN q) hag c1 (HREP.out.drewN q).size HNd.out.nf HFG.out
                  have HB1 : Hid (Best F s.data.toList (!true) (n + 1) p v n true) := Lib.hid (HR.out.2.1.take (.inr (by omega)) HF0.out hlt)
                  have HAG := Lib.hid hag
                  clear hag
                  go_wp2_with fail
                  go_quiet (fail)
                  clear w6
                  go_wp2_with fail
                  go_ret3
                  exact ⟨_, congrArg Ending.returned (HFI.out _ _ _ _ (HB1.out.far (by have := HSL.out; omega) (fun i hi hi2 hr => by rw [HZ.out i (by omega) (by have := HSL.out; omega)]; exact Nat.zero_le _))), rfl⟩
            · have hb1 : decide ((bp : Int) < (p : Int)) = false := decide_eq_false (by omega)
              have hb2 : decide (bp < p) = false := decide_eq_false (by omega)
              have HB1 : Hid (Best F s.data.toList (!ig) (n + 1) bp val kl found) := Lib.hid (HR.out.2.1.far (Nat.le_succ n) (fun i hi hi2 hr => by
                obtain rfl : i = n := by omega
                rw [HF0.out]; show p ≤ bp; omega))
              go_wp2_with fail
              go_quiet (fail)
              clear w6
              go_wp2_with fail
              go_ret3
              exact ⟨_, congrArg Ending.returned (HFI.out _ _ _ _ (HB1.out.far (by have := HSL.out; omega) (fun i hi hi2 hr => by rw [HZ.out i (by omega) (by have := HSL.out; omega)]; exact Nat.zero_le _))), rfl⟩
          · have hb3 : ((my : Int) == (N : Int)) = false := beq_eq_false_iff_ne.2 (by omega)
            have hmlt : my < N := by omega
            have my1 : (my : Int) < (N : Int) := by omega
            obtain ⟨U, hU⟩ : ∃ U, U = ch my := ⟨_, rfl⟩
            have ct : w.cell? ⟨tb, my, none⟩ = some U.ptr := by rw [hU]; exact h6 my hmlt
            have HU : Hid (Stands F m U s.data.toList (n + 1) ∧ Lies w m N base U ∧ AtRoot U g (n + 1)) := Lib.hid ⟨by
                have := HR.out.1.tab (HDB.out.trans (by rw [← HY.out]))
                rw [← HMY.out, ← hU] at this; exact this, hU ▸ h11 my, .inr ⟨by omega, by
              rw [hU]
              rcases HR.out.2.2.2 with ⟨_, h⟩ | ⟨_, h⟩
              · have : a = g := Option.some.inj h
                exact this ▸ (h9 my).1
              · exact fun e => h (.inr (.inr ⟨my, e⟩))⟩⟩
            clear h1 h2 h3 h4 h5 h6 h7 h8 h9 h10 h11 hU
            have hmN' : ¬ N = my := fun e => hmN e.symm
            have hmN2 : ((N : Int) == (my : Int)) = false := beq_eq_false_iff_ne.2 (by omega)
            by_cases hlt : bp < p
            · cases ig with
              | false =>
                have hb1 : decide ((bp : Int) < (p : Int)) = true := decide_eq_true (by omega)
                have hb2 : decide (bp < p) = true := decide_eq_true (by omega)
                have HB1 : Hid (Best F s.data.toList (!false) (n + 1) p v n true) := Lib.hid (HR.out.2.1.take (.inl rfl) HF0.out hlt)
                go_wp2_with fail
                go_quiet (fail)
                clear w6
                go_wp2_with fail
                go_roundw
                case rel => exact ⟨n + 1, _, _, _, _, _, _, U, rfl, rfl, (by go_num), rfl, rfl, rfl, by go_num, by omega, rfl, Lib.hid (ext_ext s x n 1 HX.out), Lib.hid ⟨HU.out.1, HB1.out, HU.out.2.1, HU.out.2.2⟩⟩
                case measure => simp [RowKit.intOf]; omega
              | true =>
                by_cases hn0 : n = 0
                · have hb1 : decide ((bp : Int) < (p : Int)) = true := decide_eq_true (by omega)
                  have hb2 : decide (bp < p) = true := decide_eq_true (by omega)
                  have hag : a = g := by
                    rcases HR.out.2.2.2 with ⟨_, h⟩ | ⟨h, _⟩
                    · exact Option.some.inj (HTr.out.symm.trans h)
                    · omega
                  have hpe := ptr_eql_same (w.drewN q) ⟨g, 0, none⟩
                  have HB1 : Hid (Best F s.data.toList (!true) (n + 1) bp val kl found) := Lib.hid (HR.out.2.1.far (Nat.le_succ n) (fun i hi hi2 hr => by
                    rcases hr with h | h
                    · cases h
                    · omega))
                  subst hag
                  go_wp2_with fail
                  go_quiet (fail)
                  clear w6
                  go_wp2_with fail
                  go_roundw
                  case rel => exact ⟨n + 1, _, _, _, _, _, _, U, rfl, rfl, (by go_num), rfl, rfl, rfl, by go_num, by omega, rfl, Lib.hid (ext_ext s x n 1 HX.out), Lib.hid ⟨HU.out.1, HB1.out, HU.out.2.1, HU.out.2.2⟩⟩
                  case measure => simp [RowKit.intOf]; omega
                · have hb1 : decide ((bp : Int) < (p : Int)) = true := decide_eq_true (by omega)
                  have hb2 : decide (bp < p) = true := decide_eq_true (by omega)
                  have hag : a ≠ g := by
                    rcases HR.out.2.2.2 with ⟨h, _⟩ | ⟨_, h⟩
                    · omega
                    · exact fun e => h (e ▸ Tr.has_root HTr.out)
                  have hpe := ptr_eql_other (w := w.drewN q) hag c1 (HREP.out.drewN q).size HNd.out.nf HFG.out
                  have HB1 : Hid (Best F s.data.toList (!true) (n + 1) p v n true) := Lib.hid (HR.out.2.1.take (.inr (by omega)) HF0.out hlt)
                  have HAG := Lib.hid hag
                  clear hag
                  go_wp2_with fail
                  go_quiet (fail)
                  clear w6
                  go_wp2_with fail
                  go_roundw
                  case rel => exact ⟨n + 1, _, _, _, _, _, _, U, rfl, rfl, (by go_num), rfl, rfl, rfl, by go_num, by omega, rfl, Lib.hid (ext_ext s x n 1 HX.out), Lib.hid ⟨HU.out.1, HB1.out, HU.out.2.1, HU.out.2.2⟩⟩
                  case measure => simp [RowKit.intOf]; omega
            · have hb1 : decide ((bp : Int) < (p : Int)) = false := decide_eq_false (by omega)
              have hb2 : decide (bp < p) = false := decide_eq_false (by omega)
              have HB1 : Hid (Best F s.data.toList (!ig) (n + 1) bp val kl found) := Lib.hid (HR.out.2.1.far (Nat.le_succ n) (fun i hi hi2 hr => by
                obtain rfl : i = n := by omega
                rw [HF0.out]; show p ≤ bp; omega))
              go_wp2_with fail
              go_quiet (fail)
              clear w6
              go_wp2_with fail
              go_roundw
              case rel => exact ⟨n + 1, _, _, _, _, _, _, U, rfl, rfl, (by go_num), rfl, rfl, rfl, by go_num, by omega, rfl, Lib.hid (ext_ext s x n 1 HX.out), Lib.hid ⟨HU.out.1, HB1.out, HU.out.2.1, HU.out.2.2⟩⟩
              case measure => simp [RowKit.intOf]; omega
end Go.Proofs.Ytnigbgablginnaa


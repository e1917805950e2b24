/- LastIndexRabinKarp over slices of bytes (printed by mkLastRkB.py). -/
import Derived.Test.YtiggomaoijamhaaLastRkB
namespace Go.Proofs.Ytiggomaoijamhaa
open Go.RowKit Go.Lib

/-- 's[l:]' of a slice of one-cell elements, l below the capacity. -/
theorem run_slice_tail {P : Program} (W : World) (t e : TypeId) (ht : P.underlying t = some (.slice e)) (hz : ∀ w, (Go.sizeOf e).run P w = .ok 1 w) (b o len cap l : Nat) (hl : l ≤ len) (hc : l < cap) :
    (Instr.slice t (.slice (some ⟨b, o, none⟩) len cap) (some (.int .i64 (l : Int))) none none).run P W = .ok (.slice (some ⟨b, o + l, none⟩) (len - l) (cap - l)) W := by
  have ht' : P.underlying t = some (.slice (P.elem t)) := by simp [Program.elem, ht]
  have he : P.elem t = e := by simp [Program.elem, ht]
  rw [run_slice_l W t _ _ _ ht' .i64 _ (by omega) (by omega), he, hz]
  have hne : ¬ cap = l := by omega
  by_cases h0 : l = 0
  · subst h0
    simp [Result.andThen, sliced, Addr.add, hne]
  · simp [Result.andThen, sliced, Addr.add, hne, h0]

set_option maxHeartbeats 16000000 in
set_option maxRecDepth 100000 in
theorem LastIndexRabinKarpB (b1 o1 c1 b2 o2 c2 : Nat) (s sep : ByteArray) (h1 : 1 ≤ sep.size) (h2 : sep.size ≤ s.size) (hs : s.size < 4294967281) (w : World)
    (hc1 : Lib.Bytes w b1 o1 s) (hc2 : Lib.Bytes w b2 o2 sep) (hcap : s.size ≤ c1) :
    Calls Try.prog 50 #[.slice (some ⟨b1, o1, none⟩) s.size c1, .slice (some ⟨b2, o2, none⟩) sep.size c2] w fun e w' => e = .returned (.int .i64 (Lib.lastIndex s.data.toList sep.data.toList)) ∧ ∃ q, w' = w.drewN q := by
  obtain ⟨hh, Hh⟩ : ∃ hh : Int, hh = RK.H sep.data.toList.reverse % 4294967296 := ⟨_, rfl⟩
  obtain ⟨pw, Hp⟩ : ∃ pw : Int, pw = 16777619 ^ sep.size % 4294967296 := ⟨_, rfl⟩
  have hc : Calls Try.prog 52 #[.slice (some ⟨b2, o2, none⟩) sep.size c2] w fun e w' => e = .returned (.tuple #[.int .u32 hh, .int .u32 pw]) ∧ w' = w := by rw [Hh, Hp]; exact hashStrRevB b2 o2 c2 sep (by omega) w hc2
  have HH := hid Hh
  have HP := hid Hp
  clear Hh Hp
  have z5 : ∀ w, (Go.sizeOf 5).run Try.prog w = .ok 1 w := fun w => by kernel_rfl
  obtain ⟨last, hlast⟩ : ∃ last : Nat, last + sep.size = s.size := ⟨s.size - sep.size, by omega⟩
  have elast : (s.size : Int) - sep.size = last := by omega
  have HL : Hid (Lib.lastIndex s.data.toList sep.data.toList = Lib.lastOcc s.data.toList sep.data.toList (last + 1)) := by
    show _ = _
    unfold Lib.lastIndex
    rw [if_pos (by simp; omega)]
    congr 1
    simp; omega
  have hvs : ∀ n, (convert 23 9 (.slice (some ⟨b2, o2, none⟩) sep.size c2)).run Try.prog (w.drewN n) = .ok (.string sep) (w.drewN n) := fun n =>
    Lib.run_convert_whole (P := Try.prog) (w.drewN n) _ _ _ Try.underlying23 Try.underlying5 Try.underlying9 b2 o2 sep (Lib.Bytes.drewN hc2 n) c2
  have hvw : Aside (∀ n j cap, j + sep.size ≤ s.size → (convert 23 9 (.slice (some ⟨b1, o1 + j, none⟩) sep.size cap)).run Try.prog (w.drewN n) = .ok (.string (s.extract j (j + sep.size))) (w.drewN n)) := fun n j cap hj =>
    Lib.run_convert_window (P := Try.prog) _ _ _ _ Try.underlying23 Try.underlying5 Try.underlying9 b1 o1 s (Lib.Bytes.drewN hc1 n) j sep.size cap hj
  have hv0 : ∀ n cap, (convert 23 9 (.slice (some ⟨b1, o1 + last, none⟩) sep.size cap)).run Try.prog (w.drewN n) = .ok (.string (s.extract last s.size)) (w.drewN n) := fun n cap => by
    have := hvw.out n last cap (by omega)
    rwa [hlast] at this
  have hsl0 : ∀ W, (Instr.slice 23 (.slice (some ⟨b1, o1, none⟩) s.size c1) (some (.int .i64 (last : Int))) none none).run Try.prog W = .ok (.slice (some ⟨b1, o1 + last, none⟩) sep.size (c1 - last)) W := fun W => by
    rw [run_slice_tail W 23 5 Try.underlying23 z5 b1 o1 s.size c1 last (by omega) (by omega), show s.size - last = sep.size by omega]
  have C1 : Aside (Lib.Bytes w b1 o1 s) := hc1
  clear hc1 hc2
  go_enter Try.func50, Try.ntmps50
  go_wp2_with (go_at_call 52; refine hc.mono ?_; rintro e w' ⟨rfl, hw'⟩; have hw'' := hw'.symm; subst hw'')
  go_loop [9, 10] (fun vh vi => ∃ (k : Nat) (h : Int), last ≤ k ∧ k ≤ s.size ∧ vi = .int .i64 ((k : Int) - 1) ∧ vh = .int .u32 h ∧ Hid (h = RK.H (s.data.toList.drop k).reverse % 4294967296)) (fun _ vi => ((RowKit.intOf vi) + 1).toNat)
  case atStart => exact ⟨s.size, 0, by omega, Nat.le_refl _, rfl, rfl, by show (0 : Int) = _; rw [List.drop_of_length_le (by simp)]; rfl⟩
  case round =>
    obtain ⟨k, h, hk1, hk, rfl, rfl, hk2⟩ := hrel
    by_cases hgo : last < k
    · have ck := C1.out (k - 1) (by omega)
      have k1 : 1 ≤ k := by omega
      have k2 : (last : Int) ≤ (k : Int) - 1 := by omega
      go_wp2
      refine ⟨⟨k - 1, _, by omega, by omega, by congr 1; omega, rfl, LastIndex.hashrev_step s k k1 hk hk2.out⟩, ?_⟩
      simp [RowKit.intOf]; omega
    · have hkl : k = last := by omega
      subst hkl
      have k2 : ¬ (k : Int) ≤ (k : Int) - 1 := by omega
      have hwin : h = RK.H (RK.win s.data.toList k sep.size).reverse % 4294967296 := by
        have := hk2.out
        rwa [show s.data.toList.drop k = RK.win s.data.toList k sep.size from (List.take_of_length_le (by simp; omega)).symm] at this
      have Hwin := hid hwin
      clear hk2 hwin hgo hk1
      by_cases ehh : h = hh
      · subst ehh
        go_wp2_with fail
        go_quiet (fail)
        go_wp2
        · have hcmp : ((s.extract k s.size).toList == sep.toList) = true := by assumption
          go_ret
          have ho := occ_yes s sep k (by omega) (by rw [hlast]; exact hcmp)
          rw [HL.out, Lib.lastOcc_hit _ _ k ho]
          exact ⟨rfl, _, rfl⟩
        · have hcmp : ((s.extract k s.size).toList == sep.toList) = false := by assumption
          have hno : occAt s.data.toList sep.data.toList k = false := occ_no s sep k (by omega) (by rw [hlast]; exact hcmp)
          have HL2 : Hid (Lib.lastIndex s.data.toList sep.data.toList = Lib.lastOcc s.data.toList sep.data.toList k) := HL.out.trans (Lib.lastOcc_miss _ _ k hno)
          simp only [hcmp]
          clear hcmp hno HL k2
          go_loopg [9, 11] s.size (fun gh vh vi wr => ∃ (j : Nat) (g : Int) (q : Nat), j ≤ k ∧ j ≤ gh ∧ vi = .int .i64 ((j : Int) - 1) ∧ vh = .int .u32 g ∧ wr = w.drewN q ∧ Hid (g = RK.H (RK.win s.data.toList j sep.size).reverse % 4294967296) ∧ Hid (Lib.lastIndex s.data.toList sep.data.toList = Lib.lastOcc s.data.toList sep.data.toList j))
          case atStart => exact ⟨k, _, _, Nat.le_refl _, by omega, rfl, rfl, rfl, Hwin, HL2⟩
          case round =>
            obtain ⟨j, g, q, hj, hgh, rfl, rfl, rfl, hg, hl⟩ := hrel
            by_cases hj1 : 1 ≤ j
            · have ck1 := C1.out (j - 1) (by omega)
              have ck2 := C1.out (j - 1 + sep.size) (by omega)
              have hsl : ∀ W, (Instr.slice 23 (.slice (some ⟨b1, o1, none⟩) s.size c1) (some (.int .i64 ((j : Int) - 1))) (some (.int .i64 ((j : Int) - 1 + sep.size))) none).run Try.prog W = .ok (.slice (some ⟨b1, o1 + (j - 1), none⟩) sep.size (c1 - (j - 1))) W := fun W => by
                rw [show ((j : Int) - 1) = ((j - 1 : Nat) : Int) by omega, show (((j - 1 : Nat) : Int) + sep.size) = ((j - 1 + sep.size : Nat) : Int) by omega, Lib.run_slice_window W 23 5 Try.underlying23 z5 b1 o1 s.size c1 _ _ (by omega) (by omega), show j - 1 + sep.size - (j - 1) = sep.size by omega]
              have hv : ∀ n cap, (convert 23 9 (.slice (some ⟨b1, o1 + (j - 1), none⟩) sep.size cap)).run Try.prog (w.drewN n) = .ok (.string (s.extract (j - 1) (j - 1 + sep.size))) (w.drewN n) := fun n cap => hvw.out n (j - 1) cap (by omega)
              have ej : j - 1 + 1 = j := by omega
              have hg' : g = RK.H (RK.win s.data.toList (j - 1 + 1) sep.size).reverse % 4294967296 := by rw [ej]; exact hg.out
              have HR := hid (LastIndex.rollrev_step s sep.size (j - 1) h1 (by omega) hg' HP.out)
              clear hg'
              by_cases heq : (g * 16777619 + ((s[j - 1]).toNat : Int) - pw * (((s[j - 1 + sep.size]).toNat : Int) % 4294967296)) % 4294967296 = h
              · go_wp2_with fail
                go_quiet (fail)
                go_wp2
                · have hcmp : ((s.extract (j - 1) (j - 1 + sep.size)).toList == sep.toList) = true := by assumption
                  have ho := occ_yes s sep (j - 1) (by omega) hcmp
                  have e3 : Lib.lastOcc s.data.toList sep.data.toList j = ((j - 1 : Nat) : Int) := by
                    have := Lib.lastOcc_hit _ _ (j - 1) ho
                    rwa [ej] at this
                  have e4 : ((j - 1 : Nat) : Int) = (j : Int) - 1 := by omega
                  go_ret
                  rw [hl.out, e3, e4]
                  exact ⟨rfl, _, World.drewN_drewN _ _ _⟩
                · have hcmp : ((s.extract (j - 1) (j - 1 + sep.size)).toList == sep.toList) = false := by assumption
                  have hn := occ_no s sep (j - 1) (by omega) hcmp
                  have e3 : Lib.lastOcc s.data.toList sep.data.toList j = Lib.lastOcc s.data.toList sep.data.toList (j - 1) := by
                    have := Lib.lastOcc_miss _ _ (j - 1) hn
                    rwa [ej] at this
                  go_roundg (j - 1)
                  case measure => omega
                  case rel => exact ⟨j - 1, _, _, by omega, Nat.le_refl _, by congr 1; omega, rfl, rfl, by first | exact heq.symm.trans HR.out | (show _ = _; rw [← HR.out]; omega), hl.out.trans e3⟩
              · have hn := LastIndex.occ_no_hashrev s sep (j - 1) (by omega) HR.out HH.out heq
                have e3 : Lib.lastOcc s.data.toList sep.data.toList j = Lib.lastOcc s.data.toList sep.data.toList (j - 1) := by
                  have := Lib.lastOcc_miss _ _ (j - 1) hn
                  rwa [ej] at this
                go_wp2_with fail
                go_quiet (fail)
                go_wp2
                go_roundg (j - 1)
                case measure => omega
                case rel => exact ⟨j - 1, _, _, by omega, Nat.le_refl _, by congr 1; omega, rfl, rfl, HR.out, hl.out.trans e3⟩
            · have hj0 : j = 0 := by omega
              subst hj0
              go_wp2
              go_ret
              rw [hl.out]
              exact ⟨rfl, _, rfl⟩
      · have hb : (h == hh) = false := beq_eq_false_iff_ne.2 ehh
        have hno : occAt s.data.toList sep.data.toList k = false := LastIndex.occ_no_hashrev s sep k (by omega) Hwin.out HH.out ehh
        have HL2 : Hid (Lib.lastIndex s.data.toList sep.data.toList = Lib.lastOcc s.data.toList sep.data.toList k) := HL.out.trans (Lib.lastOcc_miss _ _ k hno)
        clear hno HL
        go_wp2_with fail
        go_quiet (fail)
        go_wp2
        clear k2
        go_loopg [9, 11] s.size (fun gh vh vi wr => ∃ (j : Nat) (g : Int) (q : Nat), j ≤ k ∧ j ≤ gh ∧ vi = .int .i64 ((j : Int) - 1) ∧ vh = .int .u32 g ∧ wr = w.drewN q ∧ Hid (g = RK.H (RK.win s.data.toList j sep.size).reverse % 4294967296) ∧ Hid (Lib.lastIndex s.data.toList sep.data.toList = Lib.lastOcc s.data.toList sep.data.toList j))
        case atStart => exact ⟨k, _, _, Nat.le_refl _, by omega, rfl, rfl, rfl, Hwin, HL2⟩
        case round =>
          obtain ⟨j, g, q, hj, hgh, rfl, rfl, rfl, hg, hl⟩ := hrel
          by_cases hj1 : 1 ≤ j
          · have ck1 := C1.out (j - 1) (by omega)
            have ck2 := C1.out (j - 1 + sep.size) (by omega)
            have hsl : ∀ W, (Instr.slice 23 (.slice (some ⟨b1, o1, none⟩) s.size c1) (some (.int .i64 ((j : Int) - 1))) (some (.int .i64 ((j : Int) - 1 + sep.size))) none).run Try.prog W = .ok (.slice (some ⟨b1, o1 + (j - 1), none⟩) sep.size (c1 - (j - 1))) W := fun W => by
              rw [show ((j : Int) - 1) = ((j - 1 : Nat) : Int) by omega, show (((j - 1 : Nat) : Int) + sep.size) = ((j - 1 + sep.size : Nat) : Int) by omega, Lib.run_slice_window W 23 5 Try.underlying23 z5 b1 o1 s.size c1 _ _ (by omega) (by omega), show j - 1 + sep.size - (j - 1) = sep.size by omega]
            have hv : ∀ n cap, (convert 23 9 (.slice (some ⟨b1, o1 + (j - 1), none⟩) sep.size cap)).run Try.prog (w.drewN n) = .ok (.string (s.extract (j - 1) (j - 1 + sep.size))) (w.drewN n) := fun n cap => hvw.out n (j - 1) cap (by omega)
            have ej : j - 1 + 1 = j := by omega
            have hg' : g = RK.H (RK.win s.data.toList (j - 1 + 1) sep.size).reverse % 4294967296 := by rw [ej]; exact hg.out
            have HR := hid (LastIndex.rollrev_step s sep.size (j - 1) h1 (by omega) hg' HP.out)
            clear hg'
            by_cases heq : (g * 16777619 + ((s[j - 1]).toNat : Int) - pw * (((s[j - 1 + sep.size]).toNat : Int) % 4294967296)) % 4294967296 = hh
            · go_wp2_with fail
              go_quiet (fail)
              go_wp2
              · have hcmp : ((s.extract (j - 1) (j - 1 + sep.size)).toList == sep.toList) = true := by assumption
                have ho := occ_yes s sep (j - 1) (by omega) hcmp
                have e3 : Lib.lastOcc s.data.toList sep.data.toList j = ((j - 1 : Nat) : Int) := by
                  have := Lib.lastOcc_hit _ _ (j - 1) ho
                  rwa [ej] at this
                have e4 : ((j - 1 : Nat) : Int) = (j : Int) - 1 := by omega
                go_ret
                rw [hl.out, e3, e4]
                exact ⟨rfl, _, World.drewN_drewN _ _ _⟩
              · have hcmp : ((s.extract (j - 1) (j - 1 + sep.size)).toList == sep.toList) = false := by assumption
                have hn := occ_no s sep (j - 1) (by omega) hcmp
                have e3 : Lib.lastOcc s.data.toList sep.data.toList j = Lib.lastOcc s.data.toList sep.data.toList (j - 1) := by
                  have := Lib.lastOcc_miss _ _ (j - 1) hn
                  rwa [ej] at this
                go_roundg (j - 1)
                case measure => omega
                case rel => exact ⟨j - 1, _, _, by omega, Nat.le_refl _, by congr 1; omega, rfl, rfl, by first | exact heq.symm.trans HR.out | (show _ = _; rw [← HR.out]; omega), hl.out.trans e3⟩
            · have hn := LastIndex.occ_no_hashrev s sep (j - 1) (by omega) HR.out HH.out heq
              have e3 : Lib.lastOcc s.data.toList sep.data.toList j = Lib.lastOcc s.data.toList sep.data.toList (j - 1) := by
                have := Lib.lastOcc_miss _ _ (j - 1) hn
                rwa [ej] at this
              go_wp2_with fail
              go_quiet (fail)
              go_wp2
              go_roundg (j - 1)
              case measure => omega
              case rel => exact ⟨j - 1, _, _, by omega, Nat.le_refl _, by congr 1; omega, rfl, rfl, HR.out, hl.out.trans e3⟩
          · have hj0 : j = 0 := by omega
            subst hj0
            go_wp2
            go_ret
            rw [hl.out]
            exact ⟨rfl, _, rfl⟩
end Go.Proofs.Ytiggomaoijamhaa

/- Contracts of hashStr and IndexRabinKarp at []byte (walks after the shelf's own). -/
import Derived.Test.YtpaieadnicmplaaDoorByt
import Derived.Deep.LoopGhost
import Derived.Deep.QuietTactic
import Derived.BigQuiet
namespace Go.Proofs.YtpaieadnicmplaaDoor
open Go.RowKit Go.Lib

set_option maxHeartbeats 1600000 in
set_option maxRecDepth 100000 in
theorem hashStrB (b o c : Nat) (sep : ByteArray) (hs : sep.size < 4294967281) (w : World) (hc : Lib.Bytes w b o sep) :
    Calls Tryd.prog 70 #[.slice (some ⟨b, o, none⟩) sep.size c] w fun e w' => e = .returned (.tuple #[.int .u32 (RK.H sep.data.toList % 4294967296), .int .u32 (16777619 ^ sep.size % 4294967296)]) ∧ w' = w := by
  go_enter Tryd.func70, Tryd.ntmps70
  go_wp2
  go_loop [4, 5] (fun vh vi => ∃ (k : Nat) (h : Int), k ≤ sep.size ∧ vi = .int .i64 k ∧ vh = .int .u32 h ∧ Hid (h = RK.H (sep.data.toList.take k) % 4294967296)) (fun _ vi => sep.size - (RowKit.intOf vi).toNat)
  case atStart => exact ⟨0, 0, Nat.zero_le _, rfl, rfl, rfl⟩
  case round =>
    obtain ⟨k, h, hk, rfl, rfl, hh⟩ := hrel
    by_cases hlt : k < sep.size
    · have ck := hc k hlt
      clear hc
      go_wp2
      go_round
      case rel => exact ⟨k + 1, _, by omega, by go_num, rfl, hash_step sep k hlt hh.out⟩
      case measure => simp [RowKit.intOf]; omega
    · have hk2 : k = sep.size := by omega
      subst hk2
      clear hc
      go_wp2
      go_loop [6, 7, 8] (fun vp vq vi => ∃ (i : Nat) (pw sq : Int), vi = .int .i64 i ∧ vp = .int .u32 pw ∧ vq = .int .u32 sq ∧ 0 ≤ pw ∧ pw < 4294967296 ∧ i ≤ sep.size ∧ Hid (RK.PowInv sep.size i pw sq)) (fun _ _ vi => (RowKit.intOf vi).toNat)
      case atStart => exact ⟨sep.size, 1, 16777619, rfl, rfl, rfl, by omega, by omega, Nat.le_refl _, RK.pow_start _⟩
      case round =>
        obtain ⟨i, pw, sq, rfl, rfl, rfl, p0, p1, hi, hinv⟩ := hrel
        have ea := and_one i (by omega)
        go_wp2
        · -- i is odd: 'pow *= sq'
          have ht : ((i : Int) % 2 != 0) = true := by assumption
          have ho : i % 2 = 1 := by simp at ht; omega
          go_round
          case rel => exact ⟨i / 2, _, _, by first | go_num | (congr 1; omega), rfl, rfl, by omega, by omega, by omega, RK.pow_odd hinv.out ho⟩
          case measure => simp [RowKit.intOf]; omega
        · have ht : ((i : Int) % 2 != 0) = false := by assumption
          have he : i % 2 = 0 := by simp at ht; omega
          go_round
          case rel => exact ⟨i / 2, _, _, by first | go_num | (congr 1; omega), rfl, rfl, p0, p1, by omega, RK.pow_even hinv.out he⟩
          case measure => simp [RowKit.intOf]; omega
        · have hi0 : i = 0 := by omega
          subst hi0
          have e1 : h = RK.H sep.data.toList % 4294967296 := by
            have := hh.out
            rwa [List.take_of_length_le (by simp)] at this
          have e2 := RK.pow_end hinv.out p0 p1
          go_ret2
          rw [← e1, ← e2]
          exact ⟨rfl, rfl⟩

set_option maxHeartbeats 3200000 in
set_option maxRecDepth 100000 in
theorem IndexRabinKarpB (b1 o1 c1 b2 o2 c2 : Nat) (s sep : ByteArray) (h1 : 1 ≤ sep.size) (h2 : sep.size ≤ s.size) (hs : s.size < 4294967281) (w : World)
    (hc1 : Lib.Bytes w b1 o1 s) (hc2 : Lib.Bytes w b2 o2 sep) (hcap : s.size ≤ c1) :
    Calls Tryd.prog 64 #[.slice (some ⟨b1, o1, none⟩) s.size c1, .slice (some ⟨b2, o2, none⟩) sep.size c2] w fun e w' => e = .returned (.int .i64 (Lib.index s.data.toList sep.data.toList)) ∧ ∃ q, w' = w.drewN q := by
  obtain ⟨hh, Hh⟩ : ∃ hh : Int, hh = RK.H sep.data.toList % 4294967296 := ⟨_, rfl⟩
  obtain ⟨pw, Hp⟩ : ∃ pw : Int, pw = 16777619 ^ sep.size % 4294967296 := ⟨_, rfl⟩
  have hc : Calls Tryd.prog 70 #[.slice (some ⟨b2, o2, none⟩) sep.size c2] w fun e w' => e = .returned (.tuple #[.int .u32 hh, .int .u32 pw]) ∧ w' = w := by rw [Hh, Hp]; exact hashStrB b2 o2 c2 sep (by omega) w hc2
  have HH := hid Hh
  have HP := hid Hp
  have hsl0 : Hid (s.data.toList.length = s.size) := by show _ = _; simp
  have Hpl : Hid (sep.data.toList.length = sep.size) := by show _ = _; simp
  clear Hh Hp
  have z5 : ∀ w, (Go.sizeOf 5).run Tryd.prog w = .ok 1 w := fun w => by kernel_rfl
  -- 'string(s[j:j+n])', 'string(sep)': what they give, in whatever world lies some draws behind w
  have hv0 : ∀ n cap, (convert 23 9 (.slice (some ⟨b1, o1, none⟩) sep.size cap)).run Tryd.prog (w.drewN n) = .ok (.string (s.extract 0 sep.size)) (w.drewN n) := fun n cap => by
    have := Lib.run_convert_window (P := Tryd.prog) (w.drewN n) _ _ _ Tryd.underlying23 Tryd.underlying5 Tryd.underlying9 b1 o1 s (Lib.Bytes.drewN hc1 n) 0 sep.size cap (by omega)
    simpa using this
  have hvs : ∀ n, (convert 23 9 (.slice (some ⟨b2, o2, none⟩) sep.size c2)).run Tryd.prog (w.drewN n) = .ok (.string sep) (w.drewN n) := fun n =>
    Lib.run_convert_whole (P := Tryd.prog) (w.drewN n) _ _ _ Tryd.underlying23 Tryd.underlying5 Tryd.underlying9 b2 o2 sep (Lib.Bytes.drewN hc2 n) c2
  have hvw : Aside (∀ n j cap, j + sep.size ≤ s.size → (convert 23 9 (.slice (some ⟨b1, o1 + j, none⟩) sep.size cap)).run Tryd.prog (w.drewN n) = .ok (.string (s.extract j (j + sep.size))) (w.drewN n)) := fun n j cap hj =>
    Lib.run_convert_window (P := Tryd.prog) _ _ _ _ Tryd.underlying23 Tryd.underlying5 Tryd.underlying9 b1 o1 s (Lib.Bytes.drewN hc1 n) j sep.size cap hj
  have C1 : Aside (Lib.Bytes w b1 o1 s) := hc1
  clear hc1 hc2
  go_enter Tryd.func64, Tryd.ntmps64
  go_wp2_with (go_at_call 70; refine hc.mono ?_; rintro e w' ⟨rfl, hw'⟩; have hw'' := hw'.symm; subst hw'')
  go_loop [8, 9] (fun vh vi => ∃ (k : Nat) (h : Int), k ≤ sep.size ∧ vi = .int .i64 k ∧ vh = .int .u32 h ∧ Hid (h = RK.H (s.data.toList.take k) % 4294967296)) (fun _ vi => sep.size - (RowKit.intOf vi).toNat)
  case atStart => exact ⟨0, 0, Nat.zero_le _, rfl, rfl, rfl⟩
  case round =>
    obtain ⟨k, h, hk, rfl, rfl, hk2⟩ := hrel
    by_cases hlt : k < sep.size
    · have ck := C1.out k (by omega)
      go_wp2
      go_round
      case rel => exact ⟨k + 1, _, by omega, by go_num, rfl, hash_step s k (by omega) hk2.out⟩
      case measure => simp [RowKit.intOf]; omega
    · have hkn : k = sep.size := by omega
      subst hkn
      have i0 : (0 : Int) ≤ (sep.size : Int) := by omega
      have i2 : (sep.size : Int) ≤ (c1 : Int) := by omega
      by_cases ehh : h = hh
      · subst ehh
        go_wp2_with fail
        go_quiet (fail)
        go_wp2
        · -- the first window is the needle: 'return 0'
          have hcmp : ((s.extract 0 sep.size).toList == sep.toList) = true := by assumption
          go_ret
          have ho := occ_yes s sep 0 (by omega) (by rw [Nat.zero_add]; exact hcmp)
          rw [index_hit (NoOcc.zero _ _) (Nat.zero_le _) ho]
          exact ⟨rfl, _, rfl⟩
        · -- the hashes are one, the strings part
          have hcmp : ((s.extract 0 sep.size).toList == sep.toList) = false := by assumption
          have hno : NoOcc s.data.toList sep.data.toList 1 := (NoOcc.zero _ _).succ (occ_no s sep 0 (by omega) (by rw [Nat.zero_add]; exact hcmp))
          have hwin : h = RK.H (RK.win s.data.toList 0 sep.size) % 4294967296 := hk2.out
          have Hno := hid hno
          have Hwin := hid hwin
          simp only [hcmp]
          clear hcmp hk2 hno hwin i0 i2
          -- THE SEARCH: 'for i := n; i < len(s); {'
          go_loopg [8, 10] s.size (fun gh vh vi wr => ∃ (i : Nat) (g : Int) (q : Nat), sep.size ≤ i ∧ i ≤ s.size ∧ s.size - i ≤ gh ∧ vi = .int .i64 i ∧ vh = .int .u32 g ∧ wr = w.drewN q ∧ Hid (g = RK.H (RK.win s.data.toList (i - sep.size) sep.size) % 4294967296) ∧ Hid (NoOcc s.data.toList sep.data.toList (i - sep.size + 1)))
          case atStart => exact ⟨sep.size, _, _, Nat.le_refl _, h2, by omega, rfl, rfl, rfl, by rw [Nat.sub_self]; exact Hwin, by rw [Nat.sub_self]; exact Hno⟩
          case round =>
            obtain ⟨i, g, q, hi1, hi2, hgh, rfl, rfl, rfl, hg, hn⟩ := hrel
            by_cases hlt : i < s.size
            · have ck1 := C1.out i hlt
              have ck2 := C1.out (i - sep.size) (by omega)
              -- THE PIECE 's[i-n:i]' (i is one further by then): ITS EQUATION, AND WHAT 'string(..)' OF IT GIVES
              have hsl : ∀ W, (Instr.slice 23 (.slice (some ⟨b1, o1, none⟩) s.size c1) (some (.int .i64 ((i : Int) + 1 - sep.size))) (some (.int .i64 ((i : Int) + 1))) none).run Tryd.prog W = .ok (.slice (some ⟨b1, o1 + (i + 1 - sep.size), none⟩) sep.size (c1 - (i + 1 - sep.size))) W := fun W => by
                rw [show ((i : Int) + 1 - sep.size) = ((i + 1 - sep.size : Nat) : Int) by omega, show ((i : Int) + 1) = ((i + 1 : Nat) : Int) by omega, Lib.run_slice_window W 23 5 Tryd.underlying23 z5 b1 o1 s.size c1 _ _ (by omega) (by omega), show i + 1 - (i + 1 - sep.size) = sep.size by omega]
              have hwr : IntKind.i64.wrap ((i : Int) + 1 - sep.size) = (i : Int) + 1 - sep.size := by rw [IntKind.wrap_i64]; omega
              have ee : i + 1 - sep.size + sep.size = i + 1 := by omega
              have hv : ∀ n cap, (convert 23 9 (.slice (some ⟨b1, o1 + (i + 1 - sep.size), none⟩) sep.size cap)).run Tryd.prog (w.drewN n) = .ok (.string (s.extract (i + 1 - sep.size) (i + 1))) (w.drewN n) := fun n cap => by
                have := hvw.out n (i + 1 - sep.size) cap (by omega)
                rwa [ee] at this
              -- THE WINDOW HAS MOVED ON BY ONE
              have HR := hid (roll_step s sep.size i h1 hi1 hlt hg.out HP.out)
              have ej : i - sep.size + 1 = i + 1 - sep.size := by omega
              by_cases heq : (g * 16777619 + (s[i].toNat : Int) - pw * ((s[i - sep.size].toNat : Int) % 4294967296)) % 4294967296 = h
              · go_wp2_with fail
                go_quiet (fail)
                go_wp2
                · -- A HIT: 'return i - n'
                  have hcmp : ((s.extract (i + 1 - sep.size) (i + 1)).toList == sep.toList) = true := by assumption
                  go_ret
                  have ho := occ_yes s sep (i + 1 - sep.size) (by omega) (by rw [ee]; exact hcmp)
                  rw [index_hit (i := i + 1 - sep.size) (by rw [← ej]; exact hn.out) (by rw [hsl0.out]; omega) ho]
                  refine ⟨?_, _, rfl⟩
                  show Ending.returned (Value.int .i64 ((i : Int) + 1 - sep.size)) = _
                  congr 2
                  omega
                · -- the hashes are one, the strings part
                  have hcmp : ((s.extract (i + 1 - sep.size) (i + 1)).toList == sep.toList) = false := by assumption
                  have hn' : NoOcc s.data.toList sep.data.toList (i + 1 - sep.size + 1) := by
                    rw [← ej]; exact hn.out.succ (by rw [ej]; exact occ_no s sep (i + 1 - sep.size) (by omega) (by rw [ee]; exact hcmp))
                  go_roundg (s.size - (i + 1))
                  case measure => omega
                  case rel => exact ⟨i + 1, _, _, by omega, by omega, Nat.le_refl _, by go_num, rfl, World.drewN_drewN _ _ _, by first | exact heq.symm.trans HR.out | (show _ = _; rw [← HR.out]; omega), hn'⟩
              · -- the hashes part
                have hn' : NoOcc s.data.toList sep.data.toList (i + 1 - sep.size + 1) := by
                  rw [← ej]; exact hn.out.succ (by rw [ej]; exact occ_no_hash s sep (i + 1 - sep.size) (by omega) HR.out HH.out heq)
                go_wp2_with fail
                go_quiet (fail)
                go_wp2
                go_roundg (s.size - (i + 1))
                case measure => omega
                case rel => exact ⟨i + 1, _, _, by omega, by omega, Nat.le_refl _, by go_num, rfl, World.drewN_drewN _ _ _, HR.out, hn'⟩
            · go_wp2
              go_ret
              have hpl := Hpl.out
              rw [index_past (fun e => by rw [e] at hpl; simp at hpl; omega) hn.out (by rw [hsl0.out, hpl]; omega)]
              exact ⟨rfl, _, rfl⟩
      · -- the hashes part
        have hwin : h = RK.H (RK.win s.data.toList 0 sep.size) % 4294967296 := hk2.out
        have hno : NoOcc s.data.toList sep.data.toList 1 := (NoOcc.zero _ _).succ (occ_no_hash s sep 0 (by omega) hwin HH.out ehh)
        have Hno := hid hno
        have Hwin := hid hwin
        clear hk2 hno hwin
        have hb : (h == hh) = false := beq_eq_false_iff_ne.2 ehh
        go_wp2_with fail
        go_quiet (fail)
        go_wp2
        clear i0 i2
        -- THE SEARCH: 'for i := n; i < len(s); {'
        go_loopg [8, 10] s.size (fun gh vh vi wr => ∃ (i : Nat) (g : Int) (q : Nat), sep.size ≤ i ∧ i ≤ s.size ∧ s.size - i ≤ gh ∧ vi = .int .i64 i ∧ vh = .int .u32 g ∧ wr = w.drewN q ∧ Hid (g = RK.H (RK.win s.data.toList (i - sep.size) sep.size) % 4294967296) ∧ Hid (NoOcc s.data.toList sep.data.toList (i - sep.size + 1)))
        case atStart => exact ⟨sep.size, _, _, Nat.le_refl _, h2, by omega, rfl, rfl, rfl, by rw [Nat.sub_self]; exact Hwin, by rw [Nat.sub_self]; exact Hno⟩
        case round =>
          obtain ⟨i, g, q, hi1, hi2, hgh, rfl, rfl, rfl, hg, hn⟩ := hrel
          by_cases hlt : i < s.size
          · have ck1 := C1.out i hlt
            have ck2 := C1.out (i - sep.size) (by omega)
            -- THE PIECE 's[i-n:i]' (i is one further by then): ITS EQUATION, AND WHAT 'string(..)' OF IT GIVES
            have hsl : ∀ W, (Instr.slice 23 (.slice (some ⟨b1, o1, none⟩) s.size c1) (some (.int .i64 ((i : Int) + 1 - sep.size))) (some (.int .i64 ((i : Int) + 1))) none).run Tryd.prog W = .ok (.slice (some ⟨b1, o1 + (i + 1 - sep.size), none⟩) sep.size (c1 - (i + 1 - sep.size))) W := fun W => by
              rw [show ((i : Int) + 1 - sep.size) = ((i + 1 - sep.size : Nat) : Int) by omega, show ((i : Int) + 1) = ((i + 1 : Nat) : Int) by omega, Lib.run_slice_window W 23 5 Tryd.underlying23 z5 b1 o1 s.size c1 _ _ (by omega) (by omega), show i + 1 - (i + 1 - sep.size) = sep.size by omega]
            have hwr : IntKind.i64.wrap ((i : Int) + 1 - sep.size) = (i : Int) + 1 - sep.size := by rw [IntKind.wrap_i64]; omega
            have ee : i + 1 - sep.size + sep.size = i + 1 := by omega
            have hv : ∀ n cap, (convert 23 9 (.slice (some ⟨b1, o1 + (i + 1 - sep.size), none⟩) sep.size cap)).run Tryd.prog (w.drewN n) = .ok (.string (s.extract (i + 1 - sep.size) (i + 1))) (w.drewN n) := fun n cap => by
              have := hvw.out n (i + 1 - sep.size) cap (by omega)
              rwa [ee] at this
            -- THE WINDOW HAS MOVED ON BY ONE
            have HR := hid (roll_step s sep.size i h1 hi1 hlt hg.out HP.out)
            have ej : i - sep.size + 1 = i + 1 - sep.size := by omega
            by_cases heq : (g * 16777619 + (s[i].toNat : Int) - pw * ((s[i - sep.size].toNat : Int) % 4294967296)) % 4294967296 = hh
            · go_wp2_with fail
              go_quiet (fail)
              go_wp2
              · -- A HIT: 'return i - n'
                have hcmp : ((s.extract (i + 1 - sep.size) (i + 1)).toList == sep.toList) = true := by assumption
                go_ret
                have ho := occ_yes s sep (i + 1 - sep.size) (by omega) (by rw [ee]; exact hcmp)
                rw [index_hit (i := i + 1 - sep.size) (by rw [← ej]; exact hn.out) (by rw [hsl0.out]; omega) ho]
                refine ⟨?_, _, rfl⟩
                show Ending.returned (Value.int .i64 ((i : Int) + 1 - sep.size)) = _
                congr 2
                omega
              · -- the hashes are one, the strings part
                have hcmp : ((s.extract (i + 1 - sep.size) (i + 1)).toList == sep.toList) = false := by assumption
                have hn' : NoOcc s.data.toList sep.data.toList (i + 1 - sep.size + 1) := by
                  rw [← ej]; exact hn.out.succ (by rw [ej]; exact occ_no s sep (i + 1 - sep.size) (by omega) (by rw [ee]; exact hcmp))
                go_roundg (s.size - (i + 1))
                case measure => omega
                case rel => exact ⟨i + 1, _, _, by omega, by omega, Nat.le_refl _, by go_num, rfl, World.drewN_drewN _ _ _, by first | exact heq.symm.trans HR.out | (show _ = _; rw [← HR.out]; omega), hn'⟩
            · -- the hashes part
              have hn' : NoOcc s.data.toList sep.data.toList (i + 1 - sep.size + 1) := by
                rw [← ej]; exact hn.out.succ (by rw [ej]; exact occ_no_hash s sep (i + 1 - sep.size) (by omega) HR.out HH.out heq)
              go_wp2_with fail
              go_quiet (fail)
              go_wp2
              go_roundg (s.size - (i + 1))
              case measure => omega
              case rel => exact ⟨i + 1, _, _, by omega, by omega, Nat.le_refl _, by go_num, rfl, World.drewN_drewN _ _ _, HR.out, hn'⟩
          · go_wp2
            go_ret
            have hpl := Hpl.out
            rw [index_past (fun e => by rw [e] at hpl; simp at hpl; omega) hn.out (by rw [hsl0.out, hpl]; omega)]
            exact ⟨rfl, _, rfl⟩
end Go.Proofs.YtpaieadnicmplaaDoor

/- GenWS BytWS StrWS SgWS (merged by merge.py). -/
import Derived.Test.YtnigbgablginnaaWS1
/- (*genericReplacer).WriteString into a sink (printed by mkGws.py). -/
set_option linter.unusedVariables false
namespace Go.Proofs.Ytnigbgablginnaa
open Go.RowKit Go.Lib

def GwS (rb Bf : Nat) (out : Bs) (w0 : World) (e : Ending) (w' : World) : Prop := e = .returned (.tuple #[.int .i64 out.length, .nilIface]) ∧ SnkAt w' rb Bf out ∧ Eff Bf rb w0 w'
set_option maxRecDepth 100000 in
set_option maxHeartbeats 16000000 in
theorem genWriteS (g base L N Bf : Nat) (qs : List BB) (m : UInt8 → Nat) (T : Tr) (s : ByteArray) (w0 w : World) (hG : GenOk w0 g base qs L m N T) (hL : 2 * qs.length ≤ L) (hs : s.size < 140737488355328) (hGL : ∀ W, Eff Bf w0.heap.size w0 W → GenOk W g base qs L m N T) (hB : Eff Bf w0.heap.size w0 w) (hA : SnkAt w w0.heap.size Bf []) (hz : (repl (qs.map tb) s.data.toList true).length ≤ 140737488355328) :
    Calls Try.prog 57 #[at0 g, snkV Bf, .string s] w (GwS w0.heap.size Bf (repl (qs.map tb) s.data.toList true) w0) := by
  obtain ⟨v, p, tbl, ch, hT⟩ := isTab_of hG.tab hG.root
  have hF0 : (T.get m []).2 = p := by rw [hT]; simp [Tr.get]
  have HPS : Hid (p = 0 ↔ solid (qs.map tb)) := Lib.hid (by rw [← hF0]; exact root_prio hG.holds hL)
  have HG := Lib.hid hG
  have HGL := Lib.hid hGL
  have HT := Lib.hid hT
  have HB := Lib.hid hB
  have HA := Lib.hid hA
  have HZ := Lib.hid hz
  have hsl : s.data.toList.length = s.size := by simp
  have HSL := Lib.hid hsl
  have HQL := Lib.hid hL
  clear hG hGL hT hB hA hz hF0 hsl hL
  have hna := na_sw Bf
  have hme := me_sw Bf
  have hmf : ∀ (fn : Fn) (first cap : Array Value) (w : World), (Instr.makeFunc fn first cap).run Try.prog w = .ok (.func fn first cap) w := fun _ _ _ _ => rfl
  go_enter Try.func57, Try.ntmps57
  go_wp2_with (go_at_call 65; (with_reducible refine (getSnk Bf _).mono ?_); rintro e w' ⟨rfl, rfl⟩)
  go_loopw [6, 7, 9, 10, 11, 12] (fun nv ev lv wv pv iv wr => ∃ (i last : Nat) (e : Bool) (out : Bs) (wn : Int), nv = .int .i64 out.length ∧ ev = .nilIface ∧ lv = .int .i64 last ∧ wv = .int .i64 wn ∧ pv = .bool (!e) ∧ iv = .int .i64 i ∧ i ≤ s.size + 1 ∧ last ≤ s.size ∧ last ≤ i ∧ out.length ≤ 140737488355328 ∧ Hid (GI (qs.map tb) s.data.toList out last i e) ∧ Hid (SnkAt wr w0.heap.size Bf out) ∧ Hid (Eff Bf w0.heap.size w0 wr)) (fun _ _ _ _ pv iv _ => 2 * (s.size + 1 - (RowKit.intOf iv).toNat) + bM pv)
  case atStart => exact ⟨0, 0, true, [], 0, rfl, rfl, rfl, rfl, rfl, rfl, Nat.zero_le _, Nat.zero_le _, Nat.zero_le _, Nat.zero_le _, Lib.hid (GI.zero _ _), HA, HB⟩
  case round =>
    clear HA HB
    obtain ⟨i, last, e, out, wn, rfl, rfl, rfl, rfl, rfl, rfl, hi, hls, hli, hout, HI, HA, HB⟩ := hrel
    by_cases hend : s.size < i
    · have hile : ¬ ((i : Int) ≤ (s.size : Int)) := by omega
      have hile2 : ¬ (i ≤ s.size) := by omega
      have hdone := HI.out.done (by rw [HSL.out]; exact hend)
      have HD := Lib.hid hdone
      clear hdone
      by_cases hlast : last = s.size
      · have HE : Hid (out = repl (qs.map tb) s.data.toList true) := Lib.hid (by
          rw [← HD.out, hlast, ← HSL.out, List.drop_length, List.append_nil])
        have hb : ((last : Int) != (s.size : Int)) = false := by rw [hlast]; simp
        clear hlast
        go_wp2_with fail
        go_ret2
        exact ⟨by rw [← HE.out]; rfl, HE.out ▸ HA.out, HB.out⟩
      · have hb : ((last : Int) != (s.size : Int)) = true := by rw [bne_iff_ne]; omega
        have hx := HI.out.len2
        have hxs : out.length + (s.size - last) ≤ 140737488355328 := by have := HZ.out; have := HSL.out; omega
        have hes : (s.extract last s.size).size = s.size - last := by rw [ByteArray.size_extract]; omega
        have hed : out ++ (s.extract last s.size).data.toList = repl (qs.map tb) s.data.toList true := by rw [Lib.extract_to_end]; exact HD.out
        have HAW := Lib.hid (swWrite w0.heap.size Bf out (s.extract last s.size) wr.drew (HA.out.below ((Below.refl _ _).drew)) HB.out.size (by omega))
        have HED := Lib.hid hed
        have HES := Lib.hid hes
        clear hlast hx hes hed
        go_wp2_with fail
        go_region_with (go_at_call 95; (with_reducible refine HAW.out.mono ?_); rintro e1 w2 ⟨rfl, hA2, hB2⟩; have HA2 := Lib.hid hA2; have HB2 := Lib.hid hB2; clear hA2 hB2)
        go_wp2_with fail
        go_ret2
        have hfl : (repl (qs.map tb) s.data.toList true).length = out.length + (s.size - last) := by rw [← HED.out, List.length_append, ← Lib.size_eq, HES.out]
        exact ⟨by rw [hfl]; rfl, HED.out ▸ HA2.out, HB.out.trans ((Eff.of ((Below.refl w0.heap.size wr).drew) (Nat.le_refl _)).trans HB2.out)⟩
    · have hi2 : i ≤ s.size := by omega
      have hile : (i : Int) ≤ (s.size : Int) := by omega
      have HG1 := Lib.hid (HGL.out _ HB.out)
      have hex : (s.extract i s.size).data.toList = s.data.toList.drop i := Lib.extract_to_end ..
      have HLK : Hid (∀ W, GenOk W g base qs L m N T → Calls Try.prog 54 #[at0 g, .string (s.extract i s.size), .bool (!e)] W (fun en w' => ∃ n, en = .returned (lookV (firstP (qs.map tb) (s.data.toList.drop i) e)) ∧ w' = W.drewN n)) := Lib.hid (fun W hW => by
        have := genLookup g base L N qs m T (s.extract i s.size) (!e) W hW HQL.out (by rw [ByteArray.size_extract]; omega)
        rw [Bool.not_not] at this
        unfold LookR at this
        rw [hex] at this
        exact this)
      clear hex
      by_cases hlen : i = s.size
      · have hb : ((i : Int) != (s.size : Int)) = false := by rw [hlen]; simp
        have HGW := HG1
        clear hlen
        cases hfp : firstP (qs.map tb) (s.data.toList.drop i) e with
        | none =>
          have HI2 := Lib.hid (HI.out.miss (by rw [HSL.out]; exact hi2) hfp)
          rw [hfp] at HLK
          simp only [lookV] at HLK
          clear hfp
          go_wp2_with (go_at_call 54; (with_reducible refine (HLK.out _ HGW.out).mono ?_); rintro e1 w1 ⟨n, rfl, hw1⟩; have HA1 : Hid (SnkAt w1 w0.heap.size Bf out) := Lib.hid (by rw [hw1]; exact HA.out.below (bDr _ _ n)); have HB1 : Hid (Eff Bf w0.heap.size w0 w1) := Lib.hid (by rw [hw1]; exact HB.out.trans (Eff.of (bDr w0.heap.size wr n) (Nat.le_refl _))); clear hw1)
          go_roundw
          case rel => exact ⟨i + 1, last, true, out, wn, rfl, rfl, rfl, rfl, rfl, by go_num, by omega, hls, by omega, hout, HI2, HA1, HB1⟩
          case measure => cases e <;> simp [RowKit.intOf, bM] <;> omega
        | some q =>
          obtain ⟨hql, hit⟩ := HI.out.hit (by rw [HSL.out]; exact hi2) hfp
          rw [HSL.out] at hql
          have hemp : q.1.length = 0 → e = true := fun h => fits_empty (firstP_fits hfp) (List.eq_nil_of_length_eq_zero h)
          have hol := hit.len
          have hpd : (s.extract last i).data.toList = (s.data.toList.drop last).take (i - last) := Lib.extract_data ..
          have hps : (s.extract last i).size = i - last := by rw [ByteArray.size_extract]; omega
          have hpl : ((s.data.toList.drop last).take (i - last)).length = i - last := by rw [← hpd, ← Lib.size_eq]; exact hps
          rw [List.length_append, List.length_append, hpl] at hol
          have hz2 : out.length + (i - last) + q.2.length ≤ 140737488355328 := Nat.le_trans hol HZ.out
          have hkl : ((q.1.length : Int) == 0) = !(!q.1.isEmpty) := by
            rw [Bool.not_not]
            cases q.1 with
            | nil => rfl
            | cons a r => show _ = false; rw [beq_eq_false_iff_ne, List.length_cons]; omega
          have HI2 := Lib.hid hit
          have HPD := Lib.hid hpd
          have HPS2 := Lib.hid hps
          have HEM := Lib.hid hemp
          have hvs : (⟨q.2.toArray⟩ : ByteArray).size = q.2.length := rfl
          have HVS := Lib.hid hvs
          rw [hfp] at HLK
          simp only [lookV] at HLK
          clear hfp hit hpd hps hemp hol hpl hvs
          have hki : (i : Int) + (q.1.length : Int) ≤ (s.size : Int) := by omega
          go_wp2_with (go_at_call 54; (with_reducible refine (HLK.out _ HGW.out).mono ?_); rintro e1 w1 ⟨n, rfl, hw1⟩; have HA1 : Hid (SnkAt w1 w0.heap.size Bf out) := Lib.hid (by rw [hw1]; exact HA.out.below (bDr _ _ n)); have HB1 : Hid (Eff Bf w0.heap.size w0 w1) := Lib.hid (by rw [hw1]; exact HB.out.trans (Eff.of (bDr w0.heap.size wr n) (Nat.le_refl _))); clear hw1)
          have HAW := Lib.hid (swWrite w0.heap.size Bf out (s.extract last i) w1.drew (HA1.out.below ((Below.refl _ _).drew)) HB1.out.size (by rw [HPS2.out]; omega))
          go_region_with (go_at_call 95; (with_reducible refine HAW.out.mono ?_); rintro e1 w2 ⟨rfl, hA2, hB2⟩; have HA2 := Lib.hid hA2; have HB2 : Hid (Eff Bf w0.heap.size w0 w2) := Lib.hid (HB1.out.trans ((Eff.of ((Below.refl w0.heap.size w1).drew) (Nat.le_refl _)).trans hB2)); clear hA2 hB2)
          have HAW2 := Lib.hid (swWrite w0.heap.size Bf (out ++ (s.extract last i).data.toList) ⟨q.2.toArray⟩ w2 HA2.out HB2.out.size (by rw [List.length_append, ← Lib.size_eq, HPS2.out, HVS.out]; omega))
          go_wp2_with (go_at_call 95; (with_reducible refine HAW2.out.mono ?_); rintro e3 w3 ⟨rfl, hA3, hB3⟩; have HA3 := Lib.hid hA3; have HB3 : Hid (Eff Bf w0.heap.size w0 w3) := Lib.hid (HB2.out.trans hB3); clear hA3 hB3)
          go_roundw
          case rel =>
            have HA4 : Hid (SnkAt w3 w0.heap.size Bf (out ++ (s.data.toList.drop last).take (i - last) ++ q.2)) := Lib.hid (by have := HA3.out; rw [HPD.out] at this; exact this)
            have hln : (out ++ (s.data.toList.drop last).take (i - last) ++ q.2).length = out.length + (i - last) + q.2.length := by rw [List.length_append, List.length_append, ← HPD.out, ← Lib.size_eq, HPS2.out]
            exact ⟨i + q.1.length, i + q.1.length, !q.1.isEmpty, _, _, by rw [hln]; rfl, rfl, by go_num, rfl, by simp, by go_num, by omega, hql, Nat.le_refl _, by rw [hln]; exact hz2, HI2, HA4, HB3⟩
          case measure =>
            have := HEM.out
            rcases Nat.eq_zero_or_pos q.1.length with h | h
            · have he := this h
              subst he
              have hn : q.1 = [] := List.eq_nil_of_length_eq_zero h
              rw [hn]; simp [RowKit.intOf, bM]
            · cases e <;> cases hq1 : q.1.isEmpty <;> simp [RowKit.intOf, bM] <;> omega
      · have hb : ((i : Int) != (s.size : Int)) = true := by rw [bne_iff_ne]; omega
        have hlt : i < s.size := by omega
        have hl := HG1.out.lies
        rw [HT.out] at hl
        obtain ⟨_, hN, hb1, hb2, hb3, htb, htf, hnil, _⟩ := hl
        have c1 := hN.c1
        by_cases hp : p = 0
        · have hpz : ((p : Int) == 0) = true := by rw [hp]; rfl
          have HSO := Lib.hid (HPS.out.1 hp)
          have c4 := hN.c4
          have c5 := HG1.out.rep.size
          have c6 := HG1.out.rep.map s[i]
          have hm5 := HG1.out.m255 s[i]
          have hmN := HG1.out.mN s[i]
          have hN2 := HG1.out.N256
          have hb256 := (s[i]).toNat_lt
          have hNO : (ch (m s[i])) = .nil → firstP (qs.map tb) (s.data.toList.drop i) e = none := fun hn => by
            obtain ⟨cc, rr, hd1, hd2⟩ := drop_ne (s := s.data.toList) (i := i) (by rw [HSL.out]; exact hlt)
            have hcc : cc = s[i] := by
              have h1 := byte_at s i hlt
              have h2 : (s.data.toList.drop i)[0]? = some s[i] := by rw [List.getElem?_drop]; exact h1
              rw [hd1] at h2
              exact Option.some.inj h2
            rw [hd1]
            refine fast_none HG.out.holds HQL.out HSO.out (fun x => ?_) e
            rw [HT.out, Tr.get_tab_cons, hcc, hn]
            rfl
          clear hN hp
          by_cases hmn : m s[i] = N
          · have hmz : (((m s[i] : Nat) : Int) == ((N : Nat) : Int)) = true := by rw [hmn]; simp
            have HNO := Lib.hid (hNO (hnil _ (by omega)))
            clear hNO hmn
            have HI2 := Lib.hid (HI.out.skip HSO.out (by rw [HSL.out]; exact hlt) HNO.out)
            go_wp2_with fail
            go_region
            go_wp2_with fail
            go_roundw
            case rel => exact ⟨i + 1, last, e, out, wn, rfl, rfl, rfl, rfl, rfl, by go_num, by omega, hls, by omega, hout, HI2, Lib.hid (HA.out.below ((Below.refl _ wr).drew)), Lib.hid (HB.out.trans (Eff.of ((Below.refl w0.heap.size wr).drew) (Nat.le_refl _)))⟩
            case measure => cases e <;> simp [RowKit.intOf, bM] <;> omega
          · have hmz : (((m s[i] : Nat) : Int) == ((N : Nat) : Int)) = false := by rw [beq_eq_false_iff_ne]; omega
            have hmlt : m s[i] < N := by omega
            have ct := htb (m s[i]) hmlt
            clear htb
            by_cases hch : ch (m s[i]) = .nil
            · have HNO := Lib.hid (hNO hch)
              rw [hch] at ct
              have ct2 : wr.cell? ⟨tbl, m s[i], none⟩ = some (.pointer none) := ct
              clear hNO hmn hch ct
              have HI2 := Lib.hid (HI.out.skip HSO.out (by rw [HSL.out]; exact hlt) HNO.out)
              go_wp2_with fail
              go_region
              go_wp2_with fail
              go_roundw
              case rel => exact ⟨i + 1, last, e, out, wn, rfl, rfl, rfl, rfl, rfl, by go_num, by omega, hls, by omega, hout, HI2, Lib.hid (HA.out.below ((Below.refl _ wr).drew)), Lib.hid (HB.out.trans (Eff.of ((Below.refl w0.heap.size wr).drew) (Nat.le_refl _)))⟩
              case measure => cases e <;> simp [RowKit.intOf, bM] <;> omega
            · obtain ⟨a, ha⟩ : ∃ a, (ch (m s[i])).ptr = .pointer (some ⟨a, 0, none⟩) := by
                cases h : ch (m s[i]) with
                | nil => exact absurd h hch
                | leaf a v' p' => exact ⟨a, rfl⟩
                | pre a v' p' k' n' => exact ⟨a, rfl⟩
                | tab a v' p' t' c' => exact ⟨a, rfl⟩
              rw [ha] at ct
              have HGW := Lib.hid (HG1.out.below ((Below.refl _ _).drew))
              clear hNO hmn hch ha
              go_wp2_with fail
              go_region
              cases hfp : firstP (qs.map tb) (s.data.toList.drop i) e with
              | none =>
                have HI2 := Lib.hid (HI.out.miss (by rw [HSL.out]; exact hi2) hfp)
                rw [hfp] at HLK
                simp only [lookV] at HLK
                clear hfp
                go_wp2_with (go_at_call 54; (with_reducible refine (HLK.out _ HGW.out).mono ?_); rintro e1 w1 ⟨n, rfl, hw1⟩; have HA1 : Hid (SnkAt w1 w0.heap.size Bf out) := Lib.hid (by rw [hw1]; exact HA.out.below ((Below.refl _ wr).drew.trans (bDr _ _ n))); have HB1 : Hid (Eff Bf w0.heap.size w0 w1) := Lib.hid (by rw [hw1]; exact HB.out.trans (Eff.of ((Below.refl w0.heap.size wr).drew.trans (bDr _ _ n)) (Nat.le_refl _))); clear hw1)
                go_roundw
                case rel => exact ⟨i + 1, last, true, out, wn, rfl, rfl, rfl, rfl, rfl, by go_num, by omega, hls, by omega, hout, HI2, HA1, HB1⟩
                case measure => cases e <;> simp [RowKit.intOf, bM] <;> omega
              | some q =>
                obtain ⟨hql, hit⟩ := HI.out.hit (by rw [HSL.out]; exact hi2) hfp
                rw [HSL.out] at hql
                have hemp : q.1.length = 0 → e = true := fun h => fits_empty (firstP_fits hfp) (List.eq_nil_of_length_eq_zero h)
                have hol := hit.len
                have hpd : (s.extract last i).data.toList = (s.data.toList.drop last).take (i - last) := Lib.extract_data ..
                have hps : (s.extract last i).size = i - last := by rw [ByteArray.size_extract]; omega
                have hpl : ((s.data.toList.drop last).take (i - last)).length = i - last := by rw [← hpd, ← Lib.size_eq]; exact hps
                rw [List.length_append, List.length_append, hpl] at hol
                have hz2 : out.length + (i - last) + q.2.length ≤ 140737488355328 := Nat.le_trans hol HZ.out
                have hkl : ((q.1.length : Int) == 0) = !(!q.1.isEmpty) := by
                  rw [Bool.not_not]
                  cases q.1 with
                  | nil => rfl
                  | cons a r => show _ = false; rw [beq_eq_false_iff_ne, List.length_cons]; omega
                have HI2 := Lib.hid hit
                have HPD := Lib.hid hpd
                have HPS2 := Lib.hid hps
                have HEM := Lib.hid hemp
                have hvs : (⟨q.2.toArray⟩ : ByteArray).size = q.2.length := rfl
                have HVS := Lib.hid hvs
                rw [hfp] at HLK
                simp only [lookV] at HLK
                clear hfp hit hpd hps hemp hol hpl hvs
                have hki : (i : Int) + (q.1.length : Int) ≤ (s.size : Int) := by omega
                go_wp2_with (go_at_call 54; (with_reducible refine (HLK.out _ HGW.out).mono ?_); rintro e1 w1 ⟨n, rfl, hw1⟩; have HA1 : Hid (SnkAt w1 w0.heap.size Bf out) := Lib.hid (by rw [hw1]; exact HA.out.below ((Below.refl _ wr).drew.trans (bDr _ _ n))); have HB1 : Hid (Eff Bf w0.heap.size w0 w1) := Lib.hid (by rw [hw1]; exact HB.out.trans (Eff.of ((Below.refl w0.heap.size wr).drew.trans (bDr _ _ n)) (Nat.le_refl _))); clear hw1)
                have HAW := Lib.hid (swWrite w0.heap.size Bf out (s.extract last i) w1.drew (HA1.out.below ((Below.refl _ _).drew)) HB1.out.size (by rw [HPS2.out]; omega))
                go_region_with (go_at_call 95; (with_reducible refine HAW.out.mono ?_); rintro e1 w2 ⟨rfl, hA2, hB2⟩; have HA2 := Lib.hid hA2; have HB2 : Hid (Eff Bf w0.heap.size w0 w2) := Lib.hid (HB1.out.trans ((Eff.of ((Below.refl w0.heap.size w1).drew) (Nat.le_refl _)).trans hB2)); clear hA2 hB2)
                have HAW2 := Lib.hid (swWrite w0.heap.size Bf (out ++ (s.extract last i).data.toList) ⟨q.2.toArray⟩ w2 HA2.out HB2.out.size (by rw [List.length_append, ← Lib.size_eq, HPS2.out, HVS.out]; omega))
                go_wp2_with (go_at_call 95; (with_reducible refine HAW2.out.mono ?_); rintro e3 w3 ⟨rfl, hA3, hB3⟩; have HA3 := Lib.hid hA3; have HB3 : Hid (Eff Bf w0.heap.size w0 w3) := Lib.hid (HB2.out.trans hB3); clear hA3 hB3)
                go_roundw
                case rel =>
                  have HA4 : Hid (SnkAt w3 w0.heap.size Bf (out ++ (s.data.toList.drop last).take (i - last) ++ q.2)) := Lib.hid (by have := HA3.out; rw [HPD.out] at this; exact this)
                  have hln : (out ++ (s.data.toList.drop last).take (i - last) ++ q.2).length = out.length + (i - last) + q.2.length := by rw [List.length_append, List.length_append, ← HPD.out, ← Lib.size_eq, HPS2.out]
                  exact ⟨i + q.1.length, i + q.1.length, !q.1.isEmpty, _, _, by rw [hln]; rfl, rfl, by go_num, rfl, by simp, by go_num, by omega, hql, Nat.le_refl _, by rw [hln]; exact hz2, HI2, HA4, HB3⟩
                case measure =>
                  have := HEM.out
                  rcases Nat.eq_zero_or_pos q.1.length with h | h
                  · have he := this h
                    subst he
                    have hn : q.1 = [] := List.eq_nil_of_length_eq_zero h
                    rw [hn]; simp [RowKit.intOf, bM]
                  · cases e <;> cases hq1 : q.1.isEmpty <;> simp [RowKit.intOf, bM] <;> omega
        · have hpz : ((p : Int) == 0) = false := by rw [beq_eq_false_iff_ne]; omega
          have HGW := HG1
          clear hN
          cases hfp : firstP (qs.map tb) (s.data.toList.drop i) e with
          | none =>
            have HI2 := Lib.hid (HI.out.miss (by rw [HSL.out]; exact hi2) hfp)
            rw [hfp] at HLK
            simp only [lookV] at HLK
            clear hfp
            go_wp2_with (go_at_call 54; (with_reducible refine (HLK.out _ HGW.out).mono ?_); rintro e1 w1 ⟨n, rfl, hw1⟩; have HA1 : Hid (SnkAt w1 w0.heap.size Bf out) := Lib.hid (by rw [hw1]; exact HA.out.below (bDr _ _ n)); have HB1 : Hid (Eff Bf w0.heap.size w0 w1) := Lib.hid (by rw [hw1]; exact HB.out.trans (Eff.of (bDr w0.heap.size wr n) (Nat.le_refl _))); clear hw1)
            go_roundw
            case rel => exact ⟨i + 1, last, true, out, wn, rfl, rfl, rfl, rfl, rfl, by go_num, by omega, hls, by omega, hout, HI2, HA1, HB1⟩
            case measure => cases e <;> simp [RowKit.intOf, bM] <;> omega
          | some q =>
            obtain ⟨hql, hit⟩ := HI.out.hit (by rw [HSL.out]; exact hi2) hfp
            rw [HSL.out] at hql
            have hemp : q.1.length = 0 → e = true := fun h => fits_empty (firstP_fits hfp) (List.eq_nil_of_length_eq_zero h)
            have hol := hit.len
            have hpd : (s.extract last i).data.toList = (s.data.toList.drop last).take (i - last) := Lib.extract_data ..
            have hps : (s.extract last i).size = i - last := by rw [ByteArray.size_extract]; omega
            have hpl : ((s.data.toList.drop last).take (i - last)).length = i - last := by rw [← hpd, ← Lib.size_eq]; exact hps
            rw [List.length_append, List.length_append, hpl] at hol
            have hz2 : out.length + (i - last) + q.2.length ≤ 140737488355328 := Nat.le_trans hol HZ.out
            have hkl : ((q.1.length : Int) == 0) = !(!q.1.isEmpty) := by
              rw [Bool.not_not]
              cases q.1 with
              | nil => rfl
              | cons a r => show _ = false; rw [beq_eq_false_iff_ne, List.length_cons]; omega
            have HI2 := Lib.hid hit
            have HPD := Lib.hid hpd
            have HPS2 := Lib.hid hps
            have HEM := Lib.hid hemp
            have hvs : (⟨q.2.toArray⟩ : ByteArray).size = q.2.length := rfl
            have HVS := Lib.hid hvs
            rw [hfp] at HLK
            simp only [lookV] at HLK
            clear hfp hit hpd hps hemp hol hpl hvs
            have hki : (i : Int) + (q.1.length : Int) ≤ (s.size : Int) := by omega
            go_wp2_with (go_at_call 54; (with_reducible refine (HLK.out _ HGW.out).mono ?_); rintro e1 w1 ⟨n, rfl, hw1⟩; have HA1 : Hid (SnkAt w1 w0.heap.size Bf out) := Lib.hid (by rw [hw1]; exact HA.out.below (bDr _ _ n)); have HB1 : Hid (Eff Bf w0.heap.size w0 w1) := Lib.hid (by rw [hw1]; exact HB.out.trans (Eff.of (bDr w0.heap.size wr n) (Nat.le_refl _))); clear hw1)
            have HAW := Lib.hid (swWrite w0.heap.size Bf out (s.extract last i) w1.drew (HA1.out.below ((Below.refl _ _).drew)) HB1.out.size (by rw [HPS2.out]; omega))
            go_region_with (go_at_call 95; (with_reducible refine HAW.out.mono ?_); rintro e1 w2 ⟨rfl, hA2, hB2⟩; have HA2 := Lib.hid hA2; have HB2 : Hid (Eff Bf w0.heap.size w0 w2) := Lib.hid (HB1.out.trans ((Eff.of ((Below.refl w0.heap.size w1).drew) (Nat.le_refl _)).trans hB2)); clear hA2 hB2)
            have HAW2 := Lib.hid (swWrite w0.heap.size Bf (out ++ (s.extract last i).data.toList) ⟨q.2.toArray⟩ w2 HA2.out HB2.out.size (by rw [List.length_append, ← Lib.size_eq, HPS2.out, HVS.out]; omega))
            go_wp2_with (go_at_call 95; (with_reducible refine HAW2.out.mono ?_); rintro e3 w3 ⟨rfl, hA3, hB3⟩; have HA3 := Lib.hid hA3; have HB3 : Hid (Eff Bf w0.heap.size w0 w3) := Lib.hid (HB2.out.trans hB3); clear hA3 hB3)
            go_roundw
            case rel =>
              have HA4 : Hid (SnkAt w3 w0.heap.size Bf (out ++ (s.data.toList.drop last).take (i - last) ++ q.2)) := Lib.hid (by have := HA3.out; rw [HPD.out] at this; exact this)
              have hln : (out ++ (s.data.toList.drop last).take (i - last) ++ q.2).length = out.length + (i - last) + q.2.length := by rw [List.length_append, List.length_append, ← HPD.out, ← Lib.size_eq, HPS2.out]
              exact ⟨i + q.1.length, i + q.1.length, !q.1.isEmpty, _, _, by rw [hln]; rfl, rfl, by go_num, rfl, by simp, by go_num, by omega, hql, Nat.le_refl _, by rw [hln]; exact hz2, HI2, HA4, HB3⟩
            case measure =>
              have := HEM.out
              rcases Nat.eq_zero_or_pos q.1.length with h | h
              · have he := this h
                subst he
                have hn : q.1 = [] := List.eq_nil_of_length_eq_zero h
                rw [hn]; simp [RowKit.intOf, bM]
              · cases e <;> cases hq1 : q.1.isEmpty <;> simp [RowKit.intOf, bM] <;> omega
end Go.Proofs.Ytnigbgablginnaa


/- (*byteReplacer).WriteString into a sink. -/
set_option linter.unusedVariables false
namespace Go.Proofs.Ytnigbgablginnaa
open Go.RowKit Go.Lib

/-- What a byte becomes by a table. -/
def tabG (R : Nat → Nat) (c : UInt8) : Bs := [UInt8.ofNat (R c.toNat)]
theorem tab_len (R : Nat → Nat) (s : Bs) : (s.flatMap (tabG R)).length = s.length := by
  induction s with
  | nil => rfl
  | cons a r ih => rw [List.flatMap_cons, List.length_append, ih]; simp [tabG]; omega
set_option maxRecDepth 100000 in
set_option maxHeartbeats 4000000 in
theorem bytWriteS (B Bf : Nat) (R : Nat → Nat) (s : ByteArray) (w0 : World) (hTL : ∀ W, Eff Bf w0.heap.size w0 W → TabAt W B R) (hR : ∀ c : UInt8, R c.toNat < 256) (hs : s.size ≤ 2147483647) (hA : SnkAt w0 w0.heap.size Bf []) :
    Calls Try.prog 90 #[at0 B, snkV Bf, .string s] w0 (GwS w0.heap.size Bf (s.data.toList.flatMap (tabG R)) w0) := by
  have HTL := Lib.hid hTL
  have HR := Lib.hid hR
  have HA := Lib.hid hA
  have hsl := Lib.size_eq s
  have HSL := Lib.hid hsl
  have HTO := Lib.hid (tab_len R s.data.toList)
  have hna := na_sw Bf
  have hme := me_sw Bf
  have hna2 := na_snk Bf
  have hme2 := me_snk Bf
  have hmf : ∀ (fn : Fn) (first cap : Array Value) (w : World), (Instr.makeFunc fn first cap).run Try.prog w = .ok (.func fn first cap) w := fun _ _ _ _ => rfl
  clear hTL hR hA hsl
  go_enter Try.func90, Try.ntmps90
  go_wp2_with (go_at_call 65; (with_reducible refine (getSnk Bf _).mono ?_); rintro e w' ⟨rfl, rfl⟩)
  go_loopw [6, 9, 10] (fun nv lv iv wr => ∃ (i last : Nat) (out : Bs), nv = .int .i64 out.length ∧ lv = .int .i64 last ∧ iv = .int .i64 i ∧ i ≤ s.size ∧ last ≤ i ∧ out.length ≤ 2147483647 ∧ Hid (PI (tabG R) s.data.toList out last i) ∧ Hid (SnkAt wr w0.heap.size Bf out) ∧ Hid (Eff Bf w0.heap.size w0 wr)) (fun _ _ iv _ => s.size - (RowKit.intOf iv).toNat)
  case atStart => exact ⟨0, 0, [], rfl, rfl, rfl, Nat.zero_le _, Nat.le_refl _, Nat.zero_le _, Lib.hid (PI.zero _ _), HA, Lib.hid (Eff.refl _ _ _)⟩
  case round =>
    clear HA
    obtain ⟨i, last, out, rfl, rfl, rfl, hi, hli, hout, HI, HA, HE⟩ := hrel
    by_cases hlt : i < s.size
    · have hltz : (i : Int) < (s.size : Int) := by omega
      have hb256 := (s[i]).toNat_lt
      have cc := (HTL.out wr HE.out).c (s[i]).toNat hb256
      have hci : s.data.toList[i]? = some s[i] := byte_at s i hlt
      by_cases hsame : R (s[i]).toNat = (s[i]).toNat
      · have hd : (((R (s[i]).toNat : Nat) : Int) == (((s[i]).toNat : Nat) : Int)) = true := by rw [hsame]; simp
        have HI2 := Lib.hid (HI.out.keep hci (by unfold tabG; rw [hsame]; simp))
        clear hsame hci
        go_wp2_with fail
        go_roundw
        case rel => exact ⟨i + 1, last, out, rfl, rfl, by go_num, by omega, by omega, hout, HI2, HA, HE⟩
        case measure => simp [RowKit.intOf]; omega
      · have hd : (((R (s[i]).toNat : Nat) : Int) == (((s[i]).toNat : Nat) : Int)) = false := by rw [beq_eq_false_iff_ne]; omega
        have hit := HI.out.hit hci
        have hrm := hit.room
        have HI2 := Lib.hid hit
        have HPD : Hid ((s.extract last i).data.toList = (s.data.toList.drop last).take (i - last)) := Lib.hid (Lib.extract_data ..)
        have hps : (s.extract last i).size = i - last := by rw [ByteArray.size_extract]; omega
        have hol : out.length + (i - last) + 1 ≤ 2147483647 := by
          have h1 := HTO.out
          have h2 := HSL.out
          have h3 := HPD.out
          rw [← h3, List.length_append, List.length_append, ← Lib.size_eq, hps, show (tabG R s[i]).length = 1 from rfl, h1] at hrm
          omega
        have k0 : IntKind.i64.wrap ((s[i].toNat : Nat) : Int) = ((s[i].toNat : Nat) : Int) := IntWalk.i64_in _ (by omega)
        have k1 : ((s[i].toNat : Nat) : Int) + 1 ≤ 256 := by omega
        have k2 : IntKind.i64.wrap (((s[i].toNat : Nat) : Int) + 1) = ((s[i].toNat : Nat) : Int) + 1 := IntWalk.i64_in _ (by omega)
        have k3 : (((s[i].toNat : Nat) : Int) + 1).toNat = s[i].toNat + 1 := by omega
        have k4 : (0 : Int) ≤ ((s[i].toNat : Nat) : Int) + 1 := by omega
        have k5 : ((s[i].toNat : Nat) : Int) ≤ ((s[i].toNat : Nat) : Int) + 1 := by omega
        have hTB : ∀ (W : World) (o2 : Bs), Eff Bf w0.heap.size w0 W → SnkAt W w0.heap.size Bf o2 → o2.length ≤ 2147483647 → Calls Try.prog 87 #[at0 Bf, .slice (some ⟨B, s[i].toNat, none⟩) 1 (256 - s[i].toNat)] W (fun e w' => e = .returned (.tuple #[.int .i64 1, .nilIface]) ∧ SnkAt w' w0.heap.size Bf (o2 ++ tabG R s[i]) ∧ Eff Bf w0.heap.size W w') := fun W o2 hE hA2 ho2 => by
          have := snkWrite w0.heap.size Bf o2 ⟨#[UInt8.ofNat (R s[i].toNat)]⟩ B s[i].toNat (256 - s[i].toNat) W hA2 (fun j hj => by
            have hj1 : j < 1 := hj
            obtain rfl : j = 0 := by omega
            have := (HTL.out W hE).c s[i].toNat hb256
            rw [Nat.add_zero, this]
            show _ = some (Value.int .u8 ((UInt8.ofNat (R s[i].toNat)).toNat : Int))
            rw [UInt8.toNat_ofNat', Nat.mod_eq_of_lt (HR.out s[i])]) hE.size (by show o2.length + 1 ≤ _; omega)
          exact this
        have HTB := Lib.hid hTB
        clear hsame hci hit hrm hTB
        by_cases hlast : last = i
        · have hb : ((last : Int) != (i : Int)) = false := by rw [hlast]; simp
          have HEM : Hid ((s.data.toList.drop last).take (i - last) = []) := Lib.hid (by rw [hlast, Nat.sub_self, List.take_zero])
          have HC2 := Lib.hid (HTB.out wr.drew out (HE.out.trans (Eff.of ((Below.refl w0.heap.size wr).drew) (Nat.le_refl _))) (HA.out.below ((Below.refl _ _).drew)) hout)
          clear hlast
          go_wp2_with fail
          go_region_with (go_at_call 87; (with_reducible refine HC2.out.mono ?_); rintro e1 w2 ⟨rfl, hA2, hE2⟩; have HA2 := Lib.hid hA2; have HE2 := Lib.hid (HE.out.trans ((Eff.of ((Below.refl w0.heap.size wr).drew) (Nat.le_refl _)).trans hE2)); clear hA2 hE2)
          go_wp2_with fail
          go_roundw
          case rel => exact ⟨i + 1, i + 1, out ++ tabG R s[i], by rw [List.length_append]; simp [tabG], by go_num, by go_num, by omega, Nat.le_refl _, by rw [List.length_append]; simp [tabG]; omega, Lib.hid (by have := HI2.out; rw [HEM.out, List.append_nil] at this; exact this), HA2, HE2⟩
          case measure => simp [RowKit.intOf]; omega
        · have hb : ((last : Int) != (i : Int)) = true := by rw [bne_iff_ne]; omega
          have c1 : (last : Int) ≤ (i : Int) := by omega
          have c2 : (i : Int) ≤ (s.size : Int) := by omega
          have HAW := Lib.hid (swWrite w0.heap.size Bf out (s.extract last i) wr.drew (HA.out.below ((Below.refl _ _).drew)) HE.out.size (by rw [hps]; omega))
          have HPS2 := Lib.hid hps
          clear hlast hps
          go_wp2_with fail
          go_region_with (go_at_call 95; (with_reducible refine HAW.out.mono ?_); rintro e1 w2 ⟨rfl, hA2, hE2⟩; have HA2 := Lib.hid hA2; have HE2 := Lib.hid (HE.out.trans ((Eff.of ((Below.refl w0.heap.size wr).drew) (Nat.le_refl _)).trans hE2)); clear hA2 hE2)
          have HC2 := Lib.hid (HTB.out w2.drew (out ++ (s.extract last i).data.toList) (HE2.out.trans (Eff.of ((Below.refl w0.heap.size w2).drew) (Nat.le_refl _))) (HA2.out.below ((Below.refl _ _).drew)) (by rw [List.length_append, ← Lib.size_eq, HPS2.out]; omega))
          go_wp2_with fail
          go_region_with (go_at_call 87; (with_reducible refine HC2.out.mono ?_); rintro e1 w3 ⟨rfl, hA3, hE3⟩; have HA3 := Lib.hid hA3; have HE3 := Lib.hid (HE2.out.trans ((Eff.of ((Below.refl w0.heap.size w2).drew) (Nat.le_refl _)).trans hE3)); clear hA3 hE3)
          go_wp2_with fail
          go_roundw
          case rel =>
            have hln : (out ++ (s.extract last i).data.toList ++ tabG R s[i]).length = out.length + (i - last) + 1 := by rw [List.length_append, List.length_append, ← Lib.size_eq, HPS2.out]; simp [tabG]
            exact ⟨i + 1, i + 1, out ++ (s.extract last i).data.toList ++ tabG R s[i], by rw [hln]; rfl, by go_num, by go_num, by omega, Nat.le_refl _, by rw [hln]; exact hol, Lib.hid (by have := HI2.out; rw [← HPD.out] at this; exact this), HA3, HE3⟩
          case measure => simp [RowKit.intOf]; omega
    · have hge : ¬ ((i : Int) < (s.size : Int)) := by omega
      have hls : last ≤ s.size := by omega
      have hlsz : (last : Int) ≤ (s.size : Int) := by omega
      have HD := Lib.hid (HI.out.done (by rw [← HSL.out]; omega))
      by_cases hlast : last = s.size
      · have hb : ((last : Int) != (s.size : Int)) = false := by rw [hlast]; simp
        have HEQ : Hid (out = s.data.toList.flatMap (tabG R)) := Lib.hid (by rw [← HD.out, hlast, HSL.out, List.drop_length, List.append_nil])
        clear hlast
        go_wp2_with fail
        go_ret2
        exact ⟨by rw [← HEQ.out]; rfl, HEQ.out ▸ HA.out, HE.out⟩
      · have hb : ((last : Int) != (s.size : Int)) = true := by rw [bne_iff_ne]; omega
        have hes : (s.extract last s.size).size = s.size - last := by rw [ByteArray.size_extract]; omega
        have hed : out ++ (s.extract last s.size).data.toList = s.data.toList.flatMap (tabG R) := by rw [Lib.extract_to_end]; exact HD.out
        have hrm := HI.out.room
        have hos : out.length + (s.size - last) ≤ 2147483647 := by have h1 := HTO.out; have h2 := HSL.out; omega
        have HAW := Lib.hid (swWrite w0.heap.size Bf out (s.extract last s.size) wr.drew (HA.out.below ((Below.refl _ _).drew)) HE.out.size (by rw [hes]; omega))
        have HES := Lib.hid hes
        have HED := Lib.hid hed
        clear hlast hes hed hrm
        go_wp2_with fail
        go_region_with (go_at_call 95; (with_reducible refine HAW.out.mono ?_); rintro e1 w2 ⟨rfl, hA2, hE2⟩; have HA2 := Lib.hid hA2; have HE2 := Lib.hid (HE.out.trans ((Eff.of ((Below.refl w0.heap.size wr).drew) (Nat.le_refl _)).trans hE2)); clear hA2 hE2)
        go_wp2_with fail
        go_ret2
        have hfl : (s.data.toList.flatMap (tabG R)).length = out.length + (s.size - last) := by rw [← HED.out, List.length_append, ← Lib.size_eq, HES.out]
        exact ⟨by rw [hfl]; rfl, HED.out ▸ HA2.out, HE2.out⟩
end Go.Proofs.Ytnigbgablginnaa

/- (*byteStringReplacer).WriteString into a sink. -/
set_option linter.unusedVariables false
namespace Go.Proofs.Ytnigbgablginnaa
open Go.RowKit Go.Lib

set_option maxRecDepth 100000 in
set_option maxHeartbeats 4000000 in
theorem strWriteS (B Bf base : Nat) (f : UInt8 → Option Bs) (Lb : List UInt8) (s : ByteArray) (w0 : World) (hT : StrAt w0 base B f Lb) (hbf : Bf < base) (hbB : base ≤ B) (hs : s.size ≤ 2147483647) (hM : (s.data.toList.flatMap (gOf f)).length ≤ 140737488355328) (hA : SnkAt w0 w0.heap.size Bf []) :
    Calls Try.prog 97 #[at0 B, snkV Bf, .string s] w0 (GwS w0.heap.size Bf (s.data.toList.flatMap (gOf f)) w0) := by
  have HT := Lib.hid hT
  have hBl : B < w0.heap.size := by
    obtain ⟨x, hx, _⟩ := hT.c 0
    exact World.block_lt_of_cell? _ _ hx
  have HM := Lib.hid hM
  have HA := Lib.hid hA
  have hsl := Lib.size_eq s
  have HSL := Lib.hid hsl
  have q : ∀ (w : World) (a : Option Addr) (n c n' c' : Nat), (binOp .eql 41 (.slice a n c) (.slice none n' c')).run Try.prog w = .ok (.bool a.isNone) w := fun w a n c n' c' => Lib.run_eql_slice_nil w _ _ a n c n' c' Try.underlying41
  have hna := na_sw Bf
  have hme := me_sw Bf
  have hna2 := na_snk Bf
  have hme2 := me_snk Bf
  have hmf : ∀ (fn : Fn) (first cap : Array Value) (w : World), (Instr.makeFunc fn first cap).run Try.prog w = .ok (.func fn first cap) w := fun _ _ _ _ => rfl
  clear hT hM hA hsl
  go_enter Try.func97, Try.ntmps97
  go_wp2_with (go_at_call 65; (with_reducible refine (getSnk Bf _).mono ?_); rintro e w' ⟨rfl, rfl⟩)
  go_loopw [6, 7, 9, 10] (fun nv ev lv iv wr => ∃ (i last : Nat) (out : Bs), nv = .int .i64 out.length ∧ ev = .nilIface ∧ lv = .int .i64 last ∧ iv = .int .i64 i ∧ i ≤ s.size ∧ last ≤ i ∧ out.length ≤ 140737488355328 ∧ Hid (PI (gOf f) s.data.toList out last i) ∧ Hid (SnkAt wr w0.heap.size Bf out) ∧ Hid (Eff Bf w0.heap.size w0 wr)) (fun _ _ _ iv _ => s.size - (RowKit.intOf iv).toNat)
  case atStart => exact ⟨0, 0, [], rfl, rfl, rfl, rfl, Nat.zero_le _, Nat.le_refl _, Nat.zero_le _, Lib.hid (PI.zero _ _), HA, Lib.hid (Eff.refl _ _ _)⟩
  case round =>
    clear HA
    obtain ⟨i, last, out, rfl, rfl, rfl, rfl, hi, hli, hout, HI, HA, HE⟩ := hrel
    by_cases hlt : i < s.size
    · have hltz : (i : Int) < (s.size : Int) := by omega
      have hb256 := (s[i]).toNat_lt
      obtain ⟨cx, cc0, hrv⟩ := HT.out.c s[i]
      have cc : wr.cell? ⟨B, s[i].toNat, none⟩ = some cx := (HE.out.cell hBl (by omega)).trans cc0
      have hci : s.data.toList[i]? = some s[i] := byte_at s i hlt
      cases hf : f s[i] with
      | none =>
        rw [hf] at hrv
        obtain rfl : cx = .slice none 0 0 := hrv
        have HI2 := Lib.hid (HI.out.keep hci (by unfold gOf; rw [hf]; rfl))
        clear hf hci cc0
        go_wp2_with fail
        go_roundw
        case rel => exact ⟨i + 1, last, out, rfl, rfl, rfl, by go_num, by omega, by omega, hout, HI2, HA, HE⟩
        case measure => simp [RowKit.intOf]; omega
      | some bs =>
        rw [hf] at hrv
        obtain ⟨b', cap, t, rfl, h2, h3, hb4, _, hb6, hb7, _⟩ := hrv
        have hg : gOf f s[i] = t.data.toList := by unfold gOf; rw [hf, h2]; rfl
        have hit := HI.out.hit hci
        have hrm := hit.room
        have HI2 := Lib.hid hit
        have HPD : Hid ((s.extract last i).data.toList = (s.data.toList.drop last).take (i - last)) := Lib.hid (Lib.extract_data ..)
        have hps : (s.extract last i).size = i - last := by rw [ByteArray.size_extract]; omega
        have hol : out.length + (i - last) + t.size ≤ 140737488355328 := by
          have h1 := HM.out
          have h3 := HPD.out
          rw [← h3, List.length_append, List.length_append, ← Lib.size_eq, hps, hg, ← Lib.size_eq] at hrm
          omega
        have HG := Lib.hid hg
        have hTB : ∀ (W : World) (o2 : Bs), Eff Bf w0.heap.size w0 W → W.cell? ⟨B, s[i].toNat, none⟩ = some (.slice (some ⟨b', 0, none⟩) t.size cap) → Lib.Bytes W b' 0 t → SnkAt W w0.heap.size Bf o2 → o2.length + t.size ≤ 140737488355328 → Calls Try.prog 87 #[at0 Bf, .slice (some ⟨b', 0, none⟩) t.size cap] W (SWrote w0.heap.size Bf o2 t W) := fun W o2 hE _ hby hA2 ho2 => snkWrite w0.heap.size Bf o2 t b' 0 cap W hA2 hby hE.size ho2
        have hCB : ∀ (W : World), Eff Bf w0.heap.size w0 W → W.cell? ⟨B, s[i].toNat, none⟩ = some (.slice (some ⟨b', 0, none⟩) t.size cap) ∧ Lib.Bytes W b' 0 t := fun W hE => ⟨(hE.cell hBl (by omega)).trans cc0, fun j hj => (hE.cell hb6 (by omega)).trans (hb7 j hj)⟩
        have HTB := Lib.hid hTB
        have HCB := Lib.hid hCB
        clear hf hci hit hrm hTB hCB hg cc0 hb4 hb7
        by_cases hlast : last = i
        · have hb : ((last : Int) != (i : Int)) = false := by rw [hlast]; simp
          have HEM : Hid ((s.data.toList.drop last).take (i - last) = []) := Lib.hid (by rw [hlast, Nat.sub_self, List.take_zero])
          have hE1 : Eff Bf w0.heap.size w0 wr.drew := HE.out.trans (Eff.of ((Below.refl w0.heap.size wr).drew) (Nat.le_refl _))
          have HC2 := Lib.hid (HTB.out wr.drew out hE1 (HCB.out _ hE1).1 (HCB.out _ hE1).2 (HA.out.below ((Below.refl _ _).drew)) (by omega))
          clear hE1
          clear hlast
          go_wp2_with fail
          go_region_with (go_at_call 87; (with_reducible refine HC2.out.mono ?_); rintro e1 w2 ⟨rfl, hA2, hE2⟩; have HA2 := Lib.hid hA2; have HE2 := Lib.hid (HE.out.trans ((Eff.of ((Below.refl w0.heap.size wr).drew) (Nat.le_refl _)).trans hE2)); clear hA2 hE2)
          all_goals
            go_wp2_with fail
            go_roundw
            case rel => exact ⟨i + 1, i + 1, out ++ t.data.toList, by rw [List.length_append, ← Lib.size_eq]; rfl, rfl, by go_num, by go_num, by omega, Nat.le_refl _, by rw [List.length_append, ← Lib.size_eq]; omega, Lib.hid (by have := HI2.out; rw [HEM.out, List.append_nil, HG.out] at this; exact this), HA2, HE2⟩
            case measure => simp [RowKit.intOf]; omega
        · have hb : ((last : Int) != (i : Int)) = true := by rw [bne_iff_ne]; omega
          have c1 : (last : Int) ≤ (i : Int) := by omega
          have c2 : (i : Int) ≤ (s.size : Int) := by omega
          have HAW := Lib.hid (swWrite w0.heap.size Bf out (s.extract last i) wr.drew (HA.out.below ((Below.refl _ _).drew)) HE.out.size (by rw [hps]; omega))
          have HPS2 := Lib.hid hps
          clear hlast hps
          go_wp2_with fail
          go_region_with (go_at_call 95; (with_reducible refine HAW.out.mono ?_); rintro e1 w2 ⟨rfl, hA2, hE2⟩; have HA2 := Lib.hid hA2; have HE2 := Lib.hid (HE.out.trans ((Eff.of ((Below.refl w0.heap.size wr).drew) (Nat.le_refl _)).trans hE2)); clear hA2 hE2)
          have hE3 : Eff Bf w0.heap.size w0 w2.drew := HE2.out.trans (Eff.of ((Below.refl w0.heap.size w2).drew) (Nat.le_refl _))
          have HC2 := Lib.hid (HTB.out w2.drew (out ++ (s.extract last i).data.toList) hE3 (HCB.out _ hE3).1 (HCB.out _ hE3).2 (HA2.out.below ((Below.refl _ _).drew)) (by rw [List.length_append, ← Lib.size_eq, HPS2.out]; omega))
          have cc2 : w2.cell? ⟨B, s[i].toNat, none⟩ = some (.slice (some ⟨b', 0, none⟩) t.size cap) := (HCB.out _ hE3).1
          clear hE3
          go_wp2_with fail
          go_region_with (go_at_call 87; (with_reducible refine HC2.out.mono ?_); rintro e1 w3 ⟨rfl, hA3, hE3⟩; have HA3 := Lib.hid hA3; have HE3 := Lib.hid (HE2.out.trans ((Eff.of ((Below.refl w0.heap.size w2).drew) (Nat.le_refl _)).trans hE3)); clear hA3 hE3)
          all_goals
            go_wp2_with fail
            go_roundw
            case rel =>
              have hln : (out ++ (s.extract last i).data.toList ++ t.data.toList).length = out.length + (i - last) + t.size := by rw [List.length_append, List.length_append, ← Lib.size_eq, HPS2.out, ← Lib.size_eq]
              exact ⟨i + 1, i + 1, out ++ (s.extract last i).data.toList ++ t.data.toList, by rw [hln]; rfl, rfl, by go_num, by go_num, by omega, Nat.le_refl _, by rw [hln]; exact hol, Lib.hid (by have := HI2.out; rw [← HPD.out, HG.out] at this; exact this), HA3, HE3⟩
            case measure => simp [RowKit.intOf]; omega
    · have hge : ¬ ((i : Int) < (s.size : Int)) := by omega
      have hls : last ≤ s.size := by omega
      have hlsz : (last : Int) ≤ (s.size : Int) := by omega
      have HD := Lib.hid (HI.out.done (by rw [← HSL.out]; omega))
      by_cases hlast : last = s.size
      · have hb : ((last : Int) != (s.size : Int)) = false := by rw [hlast]; simp
        have HEQ : Hid (out = s.data.toList.flatMap (gOf f)) := Lib.hid (by rw [← HD.out, hlast, HSL.out, List.drop_length, List.append_nil])
        clear hlast
        go_wp2_with fail
        go_ret2
        exact ⟨by rw [← HEQ.out]; rfl, HEQ.out ▸ HA.out, HE.out⟩
      · have hb : ((last : Int) != (s.size : Int)) = true := by rw [bne_iff_ne]; omega
        have hes : (s.extract last s.size).size = s.size - last := by rw [ByteArray.size_extract]; omega
        have hed : out ++ (s.extract last s.size).data.toList = s.data.toList.flatMap (gOf f) := by rw [Lib.extract_to_end]; exact HD.out
        have hrm := HI.out.room
        have hos : out.length + (s.size - last) ≤ 140737488355328 := by
          have h1 := HM.out
          rw [← hed, List.length_append, ← Lib.size_eq, hes] at h1
          exact h1
        have HAW := Lib.hid (swWrite w0.heap.size Bf out (s.extract last s.size) wr.drew (HA.out.below ((Below.refl _ _).drew)) HE.out.size (by rw [hes]; omega))
        have HES := Lib.hid hes
        have HED := Lib.hid hed
        clear hlast hes hed hrm
        go_wp2_with fail
        go_region_with (go_at_call 95; (with_reducible refine HAW.out.mono ?_); rintro e1 w2 ⟨rfl, hA2, hE2⟩; have HA2 := Lib.hid hA2; have HE2 := Lib.hid (HE.out.trans ((Eff.of ((Below.refl w0.heap.size wr).drew) (Nat.le_refl _)).trans hE2)); clear hA2 hE2)
        go_wp2_with fail
        go_ret2
        have hfl : (s.data.toList.flatMap (gOf f)).length = out.length + (s.size - last) := by rw [← HED.out, List.length_append, ← Lib.size_eq, HES.out]
        exact ⟨by rw [hfl]; rfl, HED.out ▸ HA2.out, HE2.out⟩
end Go.Proofs.Ytnigbgablginnaa

/- (*singleStringReplacer).WriteString into a sink. -/
set_option linter.unusedVariables false
namespace Go.Proofs.Ytnigbgablginnaa
open Go.RowKit Go.Lib

set_option maxRecDepth 100000 in
set_option maxHeartbeats 4000000 in
theorem sgWriteS (R F G Bf : Nat) (p v s : ByteArray) (S : Nat → Nat) (w0 : World) (hAL : ∀ W, Eff Bf w0.heap.size w0 W → SgAt W R F G p v S) (hs : s.size ≤ 2147483647) (h1 : 1 ≤ p.size) (hp : p.size ≤ 2147483647) (K : Nat) (hK : K = Lib.count s.data.toList p.data.toList)
    (hlen : s.size + (K + 1) * v.size ≤ 140737488355328) (hSn : SnkAt w0 w0.heap.size Bf []) :
    Calls Try.prog 88 #[at0 R, snkV Bf, .string s] w0 (GwS w0.heap.size Bf (Lib.replaceK p.data.toList v.data.toList K s.data.toList) w0) := by
  have HAL := Lib.hid hAL
  have HSn := Lib.hid hSn
  have hlenL : s.data.toList.length = s.size := (Lib.size_eq s).symm
  have hlenO : p.data.toList.length = p.size := (Lib.size_eq p).symm
  have hKs : (K + 1) * v.size = K * v.size + v.size := Nat.succ_mul _ _
  have HKd := Lib.hid hK
  have hna := na_sw Bf
  have hme := me_sw Bf
  have hmf : ∀ (fn : Fn) (first cap : Array Value) (w : World), (Instr.makeFunc fn first cap).run Try.prog w = .ok (.func fn first cap) w := fun _ _ _ _ => rfl
  clear hAL hK hSn
  go_enter Try.func88, Try.ntmps88
  go_wp2_with (go_at_call 65; (with_reducible refine (getSnk Bf _).mono ?_); rintro e w' ⟨rfl, rfl⟩)
  go_loopg [6, 7, 9] K (fun g nv ev iv wx => ∃ (start : Nat) (acc : Bs), nv = .int .i64 acc.length ∧ ev = .nilIface ∧ iv = .int .i64 start ∧ start ≤ s.size ∧
      Hid (SnkAt wx w0.heap.size Bf acc) ∧ Hid (Eff Bf w0.heap.size w0 wx) ∧ Hid (acc ++ Lib.replaceK p.data.toList v.data.toList g (s.data.toList.drop start) = Lib.replaceK p.data.toList v.data.toList K s.data.toList) ∧
      Hid (g = Lib.count (s.data.toList.drop start) p.data.toList) ∧ acc.length + (s.size - start) + g * v.size ≤ s.size + K * v.size)
  case atStart => exact ⟨0, [], rfl, rfl, rfl, Nat.zero_le _, HSn, Lib.hid (Eff.refl _ _ _), Lib.hid (by simp), Lib.hid (by rw [List.drop_zero]; exact HKd.out), by simp⟩
  case round =>
    clear HSn
    obtain ⟨start, acc, rfl, rfl, rfl, hst, HS, HE, HR, HC, hbd⟩ := hrel
    have c1 : (0 : Int) ≤ (start : Int) := by omega
    have c2 : (start : Int) ≤ (s.size : Int) := by omega
    have hAr := HAL.out wr HE.out
    have r0 := hAr.r0
    have HAr := Lib.hid hAr
    have hfn := finNext F G (s.extract start s.size) p S wr.drew hAr.fin.drew1 hAr.good h1 hp (by rw [ByteArray.size_extract]; omega)
    rw [Lib.extract_to_end] at hfn
    cases gk with
    | zero =>
      have hi : Lib.index (s.data.toList.drop start) p.data.toList = -1 := by
        rcases index_spec (s.data.toList.drop start) p.data.toList with ⟨h, _⟩ | ⟨i, h, _⟩
        · exact h
        · have := count_hit (fun e => by rw [e] at hlenO; simp at hlenO; omega) h
          have := HC.out
          omega
      rw [hi] at hfn
      have HFn := Lib.hid hfn
      have hes : (s.extract start s.size).size = s.size - start := by rw [ByteArray.size_extract]; omega
      have hed : acc ++ (s.extract start s.size).data.toList = Lib.replaceK p.data.toList v.data.toList K s.data.toList := by rw [Lib.extract_to_end]; exact HR.out
      have HAW := Lib.hid (fun m => swWrite w0.heap.size Bf acc (s.extract start s.size) (wr.drewN m) (HS.out.below (bDr _ _ _)) HE.out.size (by rw [hes]; omega))
      have HES := Lib.hid hes
      have HED := Lib.hid hed
      clear hfn hi hAr hes hed
      go_wp2_with fail
      go_region_with (go_at_call 59; refine HFn.out.mono ?_; rintro e w' ⟨n, rfl, rfl⟩)
      go_wp2_with fail
      have HAW2 := Lib.hid (HAW.out (1 + n + 1))
      go_region_with (go_at_call 95; (with_reducible refine HAW2.out.mono ?_); rintro e1 w2 ⟨rfl, hA2, hE2⟩; have HA2 := Lib.hid hA2; have HE2 := Lib.hid (HE.out.trans ((Eff.of (bDr w0.heap.size wr _) (Nat.le_refl _)).trans hE2)); clear hA2 hE2)
      go_wp2_with fail
      go_ret2
      have hfl : (Lib.replaceK p.data.toList v.data.toList K s.data.toList).length = acc.length + (s.size - start) := by rw [← HED.out, List.length_append, ← Lib.size_eq, HES.out]
      exact ⟨by rw [hfl]; rfl, HED.out ▸ HA2.out, HE2.out⟩
    | succ g =>
      obtain ⟨j, hj⟩ := Lib.index_of_count (s := s.data.toList.drop start) (old := p.data.toList) (by have := HC.out; omega)
      have hroom : j + p.size ≤ s.size - start := by
        have := Lib.index_room (s.data.toList.drop start) p.data.toList (by rw [hj]; omega)
        rw [hj, List.length_drop, hlenL, hlenO] at this
        omega
      have hsucc : (g + 1) * v.size = g * v.size + v.size := Nat.succ_mul _ _
      have c3 : (start : Int) ≤ (start : Int) + (j : Int) := by omega
      have c4 : (start : Int) + (j : Int) ≤ (s.size : Int) := by omega
      have hpd : (s.extract start (start + j)).data.toList = (s.data.toList.drop start).take j := by rw [Lib.extract_data, Nat.add_sub_cancel_left]
      have hrep : (acc ++ (s.extract start (start + j)).data.toList ++ v.data.toList) ++ Lib.replaceK p.data.toList v.data.toList g (s.data.toList.drop (start + j + p.size)) = Lib.replaceK p.data.toList v.data.toList K s.data.toList := by
        rw [← HR.out, Lib.replaceK_hit _ _ g _ j hj, List.drop_drop, hlenO, hpd]
        simp only [List.append_assoc, Nat.add_assoc]
      have hcnt : g = Lib.count (s.data.toList.drop (start + j + p.size)) p.data.toList := by
        have := Lib.count_hit (s := s.data.toList.drop start) (sub := p.data.toList) (i := j) (fun e => by rw [e] at hlenO; simp at hlenO; omega) hj
        rw [List.drop_drop, hlenO] at this
        rw [show start + j + p.size = start + (j + p.size) by omega]
        have := HC.out
        omega
      have k1 : IntKind.i64.wrap ((start : Int) + (j : Int)) = (start : Int) + (j : Int) := IntWalk.i64_in _ (by omega)
      have k2 : ((start : Int) + (j : Int)).toNat = start + j := by omega
      have k4 : (0 : Int) ≤ (start : Int) + (j : Int) := by omega
      have hps : (s.extract start (start + j)).size = j := by rw [ByteArray.size_extract]; omega
      rw [hj] at hfn
      have HFn := Lib.hid hfn
      have Hrep := Lib.hid hrep
      have Hcnt := Lib.hid hcnt
      have hjm : ((j : Int) == -1) = false := beq_eq_false_iff_ne.2 (by omega)
      have HAW := Lib.hid (fun m => swWrite w0.heap.size Bf acc (s.extract start (start + j)) (wr.drewN m) (HS.out.below (bDr _ _ _)) HE.out.size (by rw [hps]; omega))
      have HPS := Lib.hid hps
      clear hrep hcnt HR HC hfn hAr hpd hps
      go_wp2_with fail
      go_region_with (go_at_call 59; refine HFn.out.mono ?_; rintro e w' ⟨n, rfl, rfl⟩)
      go_wp2_with fail
      have HAW2 := Lib.hid (HAW.out (1 + n + 1))
      go_region_with (go_at_call 95; (with_reducible refine HAW2.out.mono ?_); rintro e1 w2 ⟨rfl, hA2, hE2⟩; have HA2 := Lib.hid hA2; have HE2 := Lib.hid (HE.out.trans ((Eff.of (bDr w0.heap.size wr _) (Nat.le_refl _)).trans hE2)); clear hA2 hE2)
      all_goals
        have r1 : w2.cell? ⟨R, 1, none⟩ = some (.string v) := (HAL.out w2 HE2.out).r1
        have HAW3 := Lib.hid (swWrite w0.heap.size Bf (acc ++ (s.extract start (start + j)).data.toList) v w2.drew (HA2.out.below ((Below.refl _ _).drew)) HE2.out.size (by rw [List.length_append, ← Lib.size_eq, HPS.out]; omega))
        go_wp2_with fail
        go_region_with (go_at_call 95; (with_reducible refine HAW3.out.mono ?_); rintro e1 w3 ⟨rfl, hA3, hE3⟩; have HA3 := Lib.hid hA3; have HE3 := Lib.hid (HE2.out.trans ((Eff.of ((Below.refl w0.heap.size w2).drew) (Nat.le_refl _)).trans hE3)); clear hA3 hE3)
        all_goals
          have hA4 := HAL.out w3 HE3.out
          have q0 := hA4.r0
          have q1 := hA4.fin.c0
          clear hA4
          have c7 : (start : Int) + ((j : Int) + (p.size : Int)) ≤ (s.size : Int) := by omega
          have hln : (acc ++ (s.extract start (start + j)).data.toList ++ v.data.toList).length = acc.length + j + v.size := by rw [List.length_append, List.length_append, ← Lib.size_eq, HPS.out, ← Lib.size_eq]
          have HLN := Lib.hid hln
          clear hln
          go_wp2_with fail
          go_roundg g
          case measure => omega
          case rel => exact ⟨start + j + p.size, acc ++ (s.extract start (start + j)).data.toList ++ v.data.toList, by rw [HLN.out, show min (start + j) s.size - start = j by omega]; rfl, rfl, by go_num, by omega, HA3, HE3, Hrep, Hcnt, by rw [HLN.out]; omega⟩
end Go.Proofs.Ytnigbgablginnaa

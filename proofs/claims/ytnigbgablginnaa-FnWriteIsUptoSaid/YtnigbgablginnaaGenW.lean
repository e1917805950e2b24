/- (*genericReplacer).WriteString into an appendSliceWriter (printed by mkGw.py). -/
import Derived.Test.YtnigbgablginnaaAsw
import Derived.Stop.Asserts
set_option linter.unusedVariables false
namespace Go.Proofs.Ytnigbgablginnaa
open Go.RowKit Go.Lib

theorem swHas (v : Value) (xT : TypeId) (w : World) : (Instr.typeAssert (.iface 83 v) xT 102 true).run Try.prog w = .ok (.tuple #[.iface 83 v, .bool true]) w := run_typeAssert_hasB Try.underlying102 (by kernel_rfl) v xT w
theorem getSW (Bf : Nat) (w : World) : Calls Try.prog 65 #[.iface 83 (at0 Bf)] w fun e w' => e = .returned (.iface 83 (at0 Bf)) ∧ w = w' := by
  have h := swHas
  go_enter Try.func65, Try.ntmps65
  go_wp2_with fail
  go_ret
  exact ⟨rfl, rfl⟩
theorem root_prio {F : Bs → ByteArray × Nat} {qs : List BB} {L : Nat} (h : Holds F qs qs.length L) (hL : 2 * qs.length ≤ L) : (F []).2 = 0 ↔ solid (qs.map tb) := by
  constructor
  · intro h0 p hp e
    obtain ⟨q, hq, rfl⟩ := List.mem_map.1 hp
    obtain ⟨j, hj, ej⟩ := List.getElem_of_mem hq
    rcases h [] with ⟨_, hn⟩ | ⟨k, q', hk, hq', _, _, eF⟩
    · exact hn j q hj (by rw [List.getElem?_eq_getElem hj, ej]) e
    · rw [eF] at h0
      have : L - 2 * k = 0 := h0
      omega
  · intro hs
    rcases h [] with ⟨e0, _⟩ | ⟨k, q', hk, hq', e1, _, _⟩
    · rw [e0]
    · exact absurd e1 (hs (tb q') (List.mem_map.2 ⟨q', List.mem_of_getElem? hq', rfl⟩))
/-- No key begins with this byte. -/
theorem fast_none {F : Bs → ByteArray × Nat} {qs : List BB} {L : Nat} (h : Holds F qs qs.length L) (hL : 2 * qs.length ≤ L) (hs : solid (qs.map tb)) {c : UInt8} {r : Bs} (hz : ∀ x, (F (c :: x)).2 = 0) (e : Bool) : firstP (qs.map tb) (c :: r) e = none := by
  unfold firstP
  rw [List.find?_eq_none]
  intro p hp hf
  obtain ⟨q, hq, rfl⟩ := List.mem_map.1 hp
  obtain ⟨j, hj, ej⟩ := List.getElem_of_mem hq
  have hne := hs _ hp
  obtain ⟨y, hy⟩ := fits_pre hf
  cases hk : (tb q).1 with
  | nil => exact hne hk
  | cons d z =>
    rw [hk, List.cons_append] at hy
    have hd : c = d := (List.cons.inj hy).1
    subst hd
    rcases h (tb q).1 with ⟨_, hn⟩ | ⟨k, q', hk', _, _, _, eF⟩
    · exact hn j q hj (by rw [List.getElem?_eq_getElem hj, ej]) rfl
    · have := hz z
      rw [← hk, eF] at this
      have : L - 2 * k = 0 := this
      omega

theorem na_asw (B : Nat) (w : World) : (nilAhead 235 83 (at0 B) "WriteString").run Try.prog w = .ok (some false) w := by kernel_rfl
theorem me_asw (B : Nat) (w : World) : (method 235 83 (at0 B) "WriteString").run Try.prog w = .ok (92, at0 B) w := by kernel_rfl
def GwR (bw Bf : Nat) (out : Bs) (w0 : World) (e : Ending) (w' : World) : Prop := e = .returned (.tuple #[.int .i64 out.length, .nilIface]) ∧ AswAt w' bw Bf out ∧ Below w0.heap.size w0 w'
def bM : Value → Nat
  | .bool false => 1
  | _ => 0

set_option maxRecDepth 100000 in
set_option maxHeartbeats 16000000 in
theorem genWrite (g base L N Bf : Nat) (qs : List BB) (m : UInt8 → Nat) (T : Tr) (s : ByteArray) (w0 w : World) (hG : GenOk w0 g base qs L m N T) (hL : 2 * qs.length ≤ L) (hs : s.size < 140737488355328) (hB : Below w0.heap.size w0 w) (hA : AswAt w w0.heap.size Bf []) (hz : (repl (qs.map tb) s.data.toList true).length ≤ 140737488355328) :
    Calls Try.prog 57 #[at0 g, .iface 83 (at0 Bf), .string s] w (GwR w0.heap.size Bf (repl (qs.map tb) s.data.toList true) w0) := by
  obtain ⟨v, p, tbl, ch, hT⟩ := isTab_of hG.tab hG.root
  have hF0 : (T.get m []).2 = p := by rw [hT]; simp [Tr.get]
  have HPS : Hid (p = 0 ↔ solid (qs.map tb)) := Lib.hid (by rw [← hF0]; exact root_prio hG.holds hL)
  have HG := Lib.hid hG
  have HT := Lib.hid hT
  have HB := Lib.hid hB
  have HA := Lib.hid hA
  have HZ := Lib.hid hz
  have hsl : s.data.toList.length = s.size := by simp
  have HSL := Lib.hid hsl
  have HQL := Lib.hid hL
  clear hG hT hB hA hz hF0 hsl hL
  have hna := na_asw Bf
  have hme := me_asw Bf
  have hmf : ∀ (fn : Fn) (first cap : Array Value) (w : World), (Instr.makeFunc fn first cap).run Try.prog w = .ok (.func fn first cap) w := fun _ _ _ _ => rfl
  go_enter Try.func57, Try.ntmps57
  go_wp2_with (go_at_call 65; (with_reducible refine (getSW Bf _).mono ?_); rintro e w' ⟨rfl, rfl⟩)
  go_loopw [6, 7, 9, 10, 11, 12] (fun nv ev lv wv pv iv wr => ∃ (i last : Nat) (e : Bool) (out : Bs) (wn : Int), nv = .int .i64 out.length ∧ ev = .nilIface ∧ lv = .int .i64 last ∧ wv = .int .i64 wn ∧ pv = .bool (!e) ∧ iv = .int .i64 i ∧ i ≤ s.size + 1 ∧ last ≤ s.size ∧ last ≤ i ∧ out.length ≤ 140737488355328 ∧ Hid (GI (qs.map tb) s.data.toList out last i e) ∧ Hid (AswAt wr w0.heap.size Bf out) ∧ Hid (Below w0.heap.size w0 wr)) (fun _ _ _ _ pv iv _ => 2 * (s.size + 1 - (RowKit.intOf iv).toNat) + bM pv)
  case atStart => exact ⟨0, 0, true, [], 0, rfl, rfl, rfl, rfl, rfl, rfl, Nat.zero_le _, Nat.zero_le _, Nat.zero_le _, Nat.zero_le _, Lib.hid (GI.zero _ _), HA, HB⟩
  case round =>
    clear HA HB
    obtain ⟨i, last, e, out, wn, rfl, rfl, rfl, rfl, rfl, rfl, hi, hls, hli, hout, HI, HA, HB⟩ := hrel
    by_cases hend : s.size < i
    · have hile : ¬ ((i : Int) ≤ (s.size : Int)) := by omega
      have hile2 : ¬ (i ≤ s.size) := by omega
      have hdone := HI.out.done (by rw [HSL.out]; exact hend)
      have HD := Lib.hid hdone
      clear hdone
      by_cases hlast : last = s.size
      · have HE : Hid (out = repl (qs.map tb) s.data.toList true) := Lib.hid (by
          rw [← HD.out, hlast, ← HSL.out, List.drop_length, List.append_nil])
        have hb : ((last : Int) != (s.size : Int)) = false := by rw [hlast]; simp
        clear hlast
        go_wp2_with fail
        go_ret2
        exact ⟨by rw [← HE.out]; rfl, HE.out ▸ HA.out, HB.out⟩
      · have hb : ((last : Int) != (s.size : Int)) = true := by rw [bne_iff_ne]; omega
        have hx := HI.out.len2
        have hxs : out.length + (s.size - last) ≤ 140737488355328 := by have := HZ.out; have := HSL.out; omega
        have hes : (s.extract last s.size).size = s.size - last := by rw [ByteArray.size_extract]; omega
        have hed : out ++ (s.extract last s.size).data.toList = repl (qs.map tb) s.data.toList true := by rw [Lib.extract_to_end]; exact HD.out
        have HAW := Lib.hid (aswWrite w0.heap.size Bf out (s.extract last s.size) wr.drew (HA.out.below ((Below.refl _ _).drew)) HB.out.size (by omega))
        have HED := Lib.hid hed
        have HES := Lib.hid hes
        clear hlast hx hes hed
        go_wp2_with fail
        go_region_with (go_at_call 92; (with_reducible refine HAW.out.mono ?_); rintro e1 w2 ⟨rfl, hA2, hB2⟩; have HA2 := Lib.hid hA2; have HB2 := Lib.hid hB2; clear hA2 hB2)
        go_wp2_with fail
        go_ret2
        have hfl : (repl (qs.map tb) s.data.toList true).length = out.length + (s.size - last) := by rw [← HED.out, List.length_append, ← Lib.size_eq, HES.out]
        exact ⟨by rw [hfl]; rfl, HED.out ▸ HA2.out, HB.out.trans (((Below.refl _ wr).drew.mono HB.out.size).trans HB2.out)⟩
    · have hi2 : i ≤ s.size := by omega
      have hile : (i : Int) ≤ (s.size : Int) := by omega
      have HG1 := Lib.hid (HG.out.below HB.out)
      have hex : (s.extract i s.size).data.toList = s.data.toList.drop i := Lib.extract_to_end ..
      have HLK : Hid (∀ W, GenOk W g base qs L m N T → Calls Try.prog 54 #[at0 g, .string (s.extract i s.size), .bool (!e)] W (fun en w' => ∃ n, en = .returned (lookV (firstP (qs.map tb) (s.data.toList.drop i) e)) ∧ w' = W.drewN n)) := Lib.hid (fun W hW => by
        have := genLookup g base L N qs m T (s.extract i s.size) (!e) W hW HQL.out (by rw [ByteArray.size_extract]; omega)
        rw [Bool.not_not] at this
        unfold LookR at this
        rw [hex] at this
        exact this)
      clear hex
      by_cases hlen : i = s.size
      · have hb : ((i : Int) != (s.size : Int)) = false := by rw [hlen]; simp
        have HGW := HG1
        clear hlen
        cases hfp : firstP (qs.map tb) (s.data.toList.drop i) e with
        | none =>
          have HI2 := Lib.hid (HI.out.miss (by rw [HSL.out]; exact hi2) hfp)
          rw [hfp] at HLK
          simp only [lookV] at HLK
          clear hfp
          go_wp2_with (go_at_call 54; (with_reducible refine (HLK.out _ HGW.out).mono ?_); rintro e1 w1 ⟨n, rfl, hw1⟩; have HA1 : Hid (AswAt w1 w0.heap.size Bf out) := Lib.hid (by rw [hw1]; exact HA.out.below (bDr _ _ n)); have HB1 : Hid (Below w0.heap.size w0 w1) := Lib.hid (by rw [hw1]; exact HB.out.trans ((bDr _ wr n).mono HB.out.size)); clear hw1)
          go_roundw
          case rel => exact ⟨i + 1, last, true, out, wn, rfl, rfl, rfl, rfl, rfl, by go_num, by omega, hls, by omega, hout, HI2, HA1, HB1⟩
          case measure => cases e <;> simp [RowKit.intOf, bM] <;> omega
        | some q =>
          obtain ⟨hql, hit⟩ := HI.out.hit (by rw [HSL.out]; exact hi2) hfp
          rw [HSL.out] at hql
          have hemp : q.1.length = 0 → e = true := fun h => fits_empty (firstP_fits hfp) (List.eq_nil_of_length_eq_zero h)
          have hol := hit.len
          have hpd : (s.extract last i).data.toList = (s.data.toList.drop last).take (i - last) := Lib.extract_data ..
          have hps : (s.extract last i).size = i - last := by rw [ByteArray.size_extract]; omega
          have hpl : ((s.data.toList.drop last).take (i - last)).length = i - last := by rw [← hpd, ← Lib.size_eq]; exact hps
          rw [List.length_append, List.length_append, hpl] at hol
          have hz2 : out.length + (i - last) + q.2.length ≤ 140737488355328 := Nat.le_trans hol HZ.out
          have hkl : ((q.1.length : Int) == 0) = !(!q.1.isEmpty) := by
            rw [Bool.not_not]
            cases q.1 with
            | nil => rfl
            | cons a r => show _ = false; rw [beq_eq_false_iff_ne, List.length_cons]; omega
          have HI2 := Lib.hid hit
          have HPD := Lib.hid hpd
          have HPS2 := Lib.hid hps
          have HEM := Lib.hid hemp
          have hvs : (⟨q.2.toArray⟩ : ByteArray).size = q.2.length := rfl
          have HVS := Lib.hid hvs
          rw [hfp] at HLK
          simp only [lookV] at HLK
          clear hfp hit hpd hps hemp hol hpl hvs
          have hki : (i : Int) + (q.1.length : Int) ≤ (s.size : Int) := by omega
          go_wp2_with (go_at_call 54; (with_reducible refine (HLK.out _ HGW.out).mono ?_); rintro e1 w1 ⟨n, rfl, hw1⟩; have HA1 : Hid (AswAt w1 w0.heap.size Bf out) := Lib.hid (by rw [hw1]; exact HA.out.below (bDr _ _ n)); have HB1 : Hid (Below w0.heap.size w0 w1) := Lib.hid (by rw [hw1]; exact HB.out.trans ((bDr _ wr n).mono HB.out.size)); clear hw1)
          have HAW := Lib.hid (aswWrite w0.heap.size Bf out (s.extract last i) w1.drew (HA1.out.below ((Below.refl _ _).drew)) HB1.out.size (by rw [HPS2.out]; omega))
          go_region_with (go_at_call 92; (with_reducible refine HAW.out.mono ?_); rintro e1 w2 ⟨rfl, hA2, hB2⟩; have HA2 := Lib.hid hA2; have HB2 : Hid (Below w0.heap.size w0 w2) := Lib.hid (HB1.out.trans (((Below.refl _ w1).drew.mono HB1.out.size).trans hB2)); clear hA2 hB2)
          have HAW2 := Lib.hid (aswWrite w0.heap.size Bf (out ++ (s.extract last i).data.toList) ⟨q.2.toArray⟩ w2 HA2.out HB2.out.size (by rw [List.length_append, ← Lib.size_eq, HPS2.out, HVS.out]; omega))
          go_wp2_with (go_at_call 92; (with_reducible refine HAW2.out.mono ?_); rintro e3 w3 ⟨rfl, hA3, hB3⟩; have HA3 := Lib.hid hA3; have HB3 : Hid (Below w0.heap.size w0 w3) := Lib.hid (HB2.out.trans hB3); clear hA3 hB3)
          go_roundw
          case rel =>
            have HA4 : Hid (AswAt w3 w0.heap.size Bf (out ++ (s.data.toList.drop last).take (i - last) ++ q.2)) := Lib.hid (by have := HA3.out; rw [HPD.out] at this; exact this)
            have hln : (out ++ (s.data.toList.drop last).take (i - last) ++ q.2).length = out.length + (i - last) + q.2.length := by rw [List.length_append, List.length_append, ← HPD.out, ← Lib.size_eq, HPS2.out]
            exact ⟨i + q.1.length, i + q.1.length, !q.1.isEmpty, _, _, by rw [hln]; rfl, rfl, by go_num, rfl, by simp, by go_num, by omega, hql, Nat.le_refl _, by rw [hln]; exact hz2, HI2, HA4, HB3⟩
          case measure =>
            have := HEM.out
            rcases Nat.eq_zero_or_pos q.1.length with h | h
            · have he := this h
              subst he
              have hn : q.1 = [] := List.eq_nil_of_length_eq_zero h
              rw [hn]; simp [RowKit.intOf, bM]
            · cases e <;> cases hq1 : q.1.isEmpty <;> simp [RowKit.intOf, bM] <;> omega
      · have hb : ((i : Int) != (s.size : Int)) = true := by rw [bne_iff_ne]; omega
        have hlt : i < s.size := by omega
        have hl := HG1.out.lies
        rw [HT.out] at hl
        obtain ⟨_, hN, hb1, hb2, hb3, htb, htf, hnil, _⟩ := hl
        have c1 := hN.c1
        by_cases hp : p = 0
        · have hpz : ((p : Int) == 0) = true := by rw [hp]; rfl
          have HSO := Lib.hid (HPS.out.1 hp)
          have c4 := hN.c4
          have c5 := HG1.out.rep.size
          have c6 := HG1.out.rep.map s[i]
          have hm5 := HG1.out.m255 s[i]
          have hmN := HG1.out.mN s[i]
          have hN2 := HG1.out.N256
          have hb256 := (s[i]).toNat_lt
          have hNO : (ch (m s[i])) = .nil → firstP (qs.map tb) (s.data.toList.drop i) e = none := fun hn => by
            obtain ⟨cc, rr, hd1, hd2⟩ := drop_ne (s := s.data.toList) (i := i) (by rw [HSL.out]; exact hlt)
            have hcc : cc = s[i] := by
              have h1 := byte_at s i hlt
              have h2 : (s.data.toList.drop i)[0]? = some s[i] := by rw [List.getElem?_drop]; exact h1
              rw [hd1] at h2
              exact Option.some.inj h2
            rw [hd1]
            refine fast_none HG.out.holds HQL.out HSO.out (fun x => ?_) e
            rw [HT.out, Tr.get_tab_cons, hcc, hn]
            rfl
          clear hN hp
          by_cases hmn : m s[i] = N
          · have hmz : (((m s[i] : Nat) : Int) == ((N : Nat) : Int)) = true := by rw [hmn]; simp
            have HNO := Lib.hid (hNO (hnil _ (by omega)))
            clear hNO hmn
            have HI2 := Lib.hid (HI.out.skip HSO.out (by rw [HSL.out]; exact hlt) HNO.out)
            go_wp2_with fail
            go_region
            go_wp2_with fail
            go_roundw
            case rel => exact ⟨i + 1, last, e, out, wn, rfl, rfl, rfl, rfl, rfl, by go_num, by omega, hls, by omega, hout, HI2, Lib.hid (HA.out.below ((Below.refl _ wr).drew)), Lib.hid (HB.out.trans ((Below.refl _ wr).drew.mono HB.out.size))⟩
            case measure => cases e <;> simp [RowKit.intOf, bM] <;> omega
          · have hmz : (((m s[i] : Nat) : Int) == ((N : Nat) : Int)) = false := by rw [beq_eq_false_iff_ne]; omega
            have hmlt : m s[i] < N := by omega
            have ct := htb (m s[i]) hmlt
            clear htb
            by_cases hch : ch (m s[i]) = .nil
            · have HNO := Lib.hid (hNO hch)
              rw [hch] at ct
              have ct2 : wr.cell? ⟨tbl, m s[i], none⟩ = some (.pointer none) := ct
              clear hNO hmn hch ct
              have HI2 := Lib.hid (HI.out.skip HSO.out (by rw [HSL.out]; exact hlt) HNO.out)
              go_wp2_with fail
              go_region
              go_wp2_with fail
              go_roundw
              case rel => exact ⟨i + 1, last, e, out, wn, rfl, rfl, rfl, rfl, rfl, by go_num, by omega, hls, by omega, hout, HI2, Lib.hid (HA.out.below ((Below.refl _ wr).drew)), Lib.hid (HB.out.trans ((Below.refl _ wr).drew.mono HB.out.size))⟩
              case measure => cases e <;> simp [RowKit.intOf, bM] <;> omega
            · obtain ⟨a, ha⟩ : ∃ a, (ch (m s[i])).ptr = .pointer (some ⟨a, 0, none⟩) := by
                cases h : ch (m s[i]) with
                | nil => exact absurd h hch
                | leaf a v' p' => exact ⟨a, rfl⟩
                | pre a v' p' k' n' => exact ⟨a, rfl⟩
                | tab a v' p' t' c' => exact ⟨a, rfl⟩
              rw [ha] at ct
              have HGW := Lib.hid (HG1.out.below ((Below.refl _ _).drew))
              clear hNO hmn hch ha
              go_wp2_with fail
              go_region
              cases hfp : firstP (qs.map tb) (s.data.toList.drop i) e with
              | none =>
                have HI2 := Lib.hid (HI.out.miss (by rw [HSL.out]; exact hi2) hfp)
                rw [hfp] at HLK
                simp only [lookV] at HLK
                clear hfp
                go_wp2_with (go_at_call 54; (with_reducible refine (HLK.out _ HGW.out).mono ?_); rintro e1 w1 ⟨n, rfl, hw1⟩; have HA1 : Hid (AswAt w1 w0.heap.size Bf out) := Lib.hid (by rw [hw1]; exact HA.out.below ((Below.refl _ wr).drew.trans (bDr _ _ n))); have HB1 : Hid (Below w0.heap.size w0 w1) := Lib.hid (by rw [hw1]; exact HB.out.trans (((Below.refl _ wr).drew.trans (bDr _ _ n)).mono HB.out.size)); clear hw1)
                go_roundw
                case rel => exact ⟨i + 1, last, true, out, wn, rfl, rfl, rfl, rfl, rfl, by go_num, by omega, hls, by omega, hout, HI2, HA1, HB1⟩
                case measure => cases e <;> simp [RowKit.intOf, bM] <;> omega
              | some q =>
                obtain ⟨hql, hit⟩ := HI.out.hit (by rw [HSL.out]; exact hi2) hfp
                rw [HSL.out] at hql
                have hemp : q.1.length = 0 → e = true := fun h => fits_empty (firstP_fits hfp) (List.eq_nil_of_length_eq_zero h)
                have hol := hit.len
                have hpd : (s.extract last i).data.toList = (s.data.toList.drop last).take (i - last) := Lib.extract_data ..
                have hps : (s.extract last i).size = i - last := by rw [ByteArray.size_extract]; omega
                have hpl : ((s.data.toList.drop last).take (i - last)).length = i - last := by rw [← hpd, ← Lib.size_eq]; exact hps
                rw [List.length_append, List.length_append, hpl] at hol
                have hz2 : out.length + (i - last) + q.2.length ≤ 140737488355328 := Nat.le_trans hol HZ.out
                have hkl : ((q.1.length : Int) == 0) = !(!q.1.isEmpty) := by
                  rw [Bool.not_not]
                  cases q.1 with
                  | nil => rfl
                  | cons a r => show _ = false; rw [beq_eq_false_iff_ne, List.length_cons]; omega
                have HI2 := Lib.hid hit
                have HPD := Lib.hid hpd
                have HPS2 := Lib.hid hps
                have HEM := Lib.hid hemp
                have hvs : (⟨q.2.toArray⟩ : ByteArray).size = q.2.length := rfl
                have HVS := Lib.hid hvs
                rw [hfp] at HLK
                simp only [lookV] at HLK
                clear hfp hit hpd hps hemp hol hpl hvs
                have hki : (i : Int) + (q.1.length : Int) ≤ (s.size : Int) := by omega
                go_wp2_with (go_at_call 54; (with_reducible refine (HLK.out _ HGW.out).mono ?_); rintro e1 w1 ⟨n, rfl, hw1⟩; have HA1 : Hid (AswAt w1 w0.heap.size Bf out) := Lib.hid (by rw [hw1]; exact HA.out.below ((Below.refl _ wr).drew.trans (bDr _ _ n))); have HB1 : Hid (Below w0.heap.size w0 w1) := Lib.hid (by rw [hw1]; exact HB.out.trans (((Below.refl _ wr).drew.trans (bDr _ _ n)).mono HB.out.size)); clear hw1)
                have HAW := Lib.hid (aswWrite w0.heap.size Bf out (s.extract last i) w1.drew (HA1.out.below ((Below.refl _ _).drew)) HB1.out.size (by rw [HPS2.out]; omega))
                go_region_with (go_at_call 92; (with_reducible refine HAW.out.mono ?_); rintro e1 w2 ⟨rfl, hA2, hB2⟩; have HA2 := Lib.hid hA2; have HB2 : Hid (Below w0.heap.size w0 w2) := Lib.hid (HB1.out.trans (((Below.refl _ w1).drew.mono HB1.out.size).trans hB2)); clear hA2 hB2)
                have HAW2 := Lib.hid (aswWrite w0.heap.size Bf (out ++ (s.extract last i).data.toList) ⟨q.2.toArray⟩ w2 HA2.out HB2.out.size (by rw [List.length_append, ← Lib.size_eq, HPS2.out, HVS.out]; omega))
                go_wp2_with (go_at_call 92; (with_reducible refine HAW2.out.mono ?_); rintro e3 w3 ⟨rfl, hA3, hB3⟩; have HA3 := Lib.hid hA3; have HB3 : Hid (Below w0.heap.size w0 w3) := Lib.hid (HB2.out.trans hB3); clear hA3 hB3)
                go_roundw
                case rel =>
                  have HA4 : Hid (AswAt w3 w0.heap.size Bf (out ++ (s.data.toList.drop last).take (i - last) ++ q.2)) := Lib.hid (by have := HA3.out; rw [HPD.out] at this; exact this)
                  have hln : (out ++ (s.data.toList.drop last).take (i - last) ++ q.2).length = out.length + (i - last) + q.2.length := by rw [List.length_append, List.length_append, ← HPD.out, ← Lib.size_eq, HPS2.out]
                  exact ⟨i + q.1.length, i + q.1.length, !q.1.isEmpty, _, _, by rw [hln]; rfl, rfl, by go_num, rfl, by simp, by go_num, by omega, hql, Nat.le_refl _, by rw [hln]; exact hz2, HI2, HA4, HB3⟩
                case measure =>
                  have := HEM.out
                  rcases Nat.eq_zero_or_pos q.1.length with h | h
                  · have he := this h
                    subst he
                    have hn : q.1 = [] := List.eq_nil_of_length_eq_zero h
                    rw [hn]; simp [RowKit.intOf, bM]
                  · cases e <;> cases hq1 : q.1.isEmpty <;> simp [RowKit.intOf, bM] <;> omega
        · have hpz : ((p : Int) == 0) = false := by rw [beq_eq_false_iff_ne]; omega
          have HGW := HG1
          clear hN
          cases hfp : firstP (qs.map tb) (s.data.toList.drop i) e with
          | none =>
            have HI2 := Lib.hid (HI.out.miss (by rw [HSL.out]; exact hi2) hfp)
            rw [hfp] at HLK
            simp only [lookV] at HLK
            clear hfp
            go_wp2_with (go_at_call 54; (with_reducible refine (HLK.out _ HGW.out).mono ?_); rintro e1 w1 ⟨n, rfl, hw1⟩; have HA1 : Hid (AswAt w1 w0.heap.size Bf out) := Lib.hid (by rw [hw1]; exact HA.out.below (bDr _ _ n)); have HB1 : Hid (Below w0.heap.size w0 w1) := Lib.hid (by rw [hw1]; exact HB.out.trans ((bDr _ wr n).mono HB.out.size)); clear hw1)
            go_roundw
            case rel => exact ⟨i + 1, last, true, out, wn, rfl, rfl, rfl, rfl, rfl, by go_num, by omega, hls, by omega, hout, HI2, HA1, HB1⟩
            case measure => cases e <;> simp [RowKit.intOf, bM] <;> omega
          | some q =>
            obtain ⟨hql, hit⟩ := HI.out.hit (by rw [HSL.out]; exact hi2) hfp
            rw [HSL.out] at hql
            have hemp : q.1.length = 0 → e = true := fun h => fits_empty (firstP_fits hfp) (List.eq_nil_of_length_eq_zero h)
            have hol := hit.len
            have hpd : (s.extract last i).data.toList = (s.data.toList.drop last).take (i - last) := Lib.extract_data ..
            have hps : (s.extract last i).size = i - last := by rw [ByteArray.size_extract]; omega
            have hpl : ((s.data.toList.drop last).take (i - last)).length = i - last := by rw [← hpd, ← Lib.size_eq]; exact hps
            rw [List.length_append, List.length_append, hpl] at hol
            have hz2 : out.length + (i - last) + q.2.length ≤ 140737488355328 := Nat.le_trans hol HZ.out
            have hkl : ((q.1.length : Int) == 0) = !(!q.1.isEmpty) := by
              rw [Bool.not_not]
              cases q.1 with
              | nil => rfl
              | cons a r => show _ = false; rw [beq_eq_false_iff_ne, List.length_cons]; omega
            have HI2 := Lib.hid hit
            have HPD := Lib.hid hpd
            have HPS2 := Lib.hid hps
            have HEM := Lib.hid hemp
            have hvs : (⟨q.2.toArray⟩ : ByteArray).size = q.2.length := rfl
            have HVS := Lib.hid hvs
            rw [hfp] at HLK
            simp only [lookV] at HLK
            clear hfp hit hpd hps hemp hol hpl hvs
            have hki : (i : Int) + (q.1.length : Int) ≤ (s.size : Int) := by omega
            go_wp2_with (go_at_call 54; (with_reducible refine (HLK.out _ HGW.out).mono ?_); rintro e1 w1 ⟨n, rfl, hw1⟩; have HA1 : Hid (AswAt w1 w0.heap.size Bf out) := Lib.hid (by rw [hw1]; exact HA.out.below (bDr _ _ n)); have HB1 : Hid (Below w0.heap.size w0 w1) := Lib.hid (by rw [hw1]; exact HB.out.trans ((bDr _ wr n).mono HB.out.size)); clear hw1)
            have HAW := Lib.hid (aswWrite w0.heap.size Bf out (s.extract last i) w1.drew (HA1.out.below ((Below.refl _ _).drew)) HB1.out.size (by rw [HPS2.out]; omega))
            go_region_with (go_at_call 92; (with_reducible refine HAW.out.mono ?_); rintro e1 w2 ⟨rfl, hA2, hB2⟩; have HA2 := Lib.hid hA2; have HB2 : Hid (Below w0.heap.size w0 w2) := Lib.hid (HB1.out.trans (((Below.refl _ w1).drew.mono HB1.out.size).trans hB2)); clear hA2 hB2)
            have HAW2 := Lib.hid (aswWrite w0.heap.size Bf (out ++ (s.extract last i).data.toList) ⟨q.2.toArray⟩ w2 HA2.out HB2.out.size (by rw [List.length_append, ← Lib.size_eq, HPS2.out, HVS.out]; omega))
            go_wp2_with (go_at_call 92; (with_reducible refine HAW2.out.mono ?_); rintro e3 w3 ⟨rfl, hA3, hB3⟩; have HA3 := Lib.hid hA3; have HB3 : Hid (Below w0.heap.size w0 w3) := Lib.hid (HB2.out.trans hB3); clear hA3 hB3)
            go_roundw
            case rel =>
              have HA4 : Hid (AswAt w3 w0.heap.size Bf (out ++ (s.data.toList.drop last).take (i - last) ++ q.2)) := Lib.hid (by have := HA3.out; rw [HPD.out] at this; exact this)
              have hln : (out ++ (s.data.toList.drop last).take (i - last) ++ q.2).length = out.length + (i - last) + q.2.length := by rw [List.length_append, List.length_append, ← HPD.out, ← Lib.size_eq, HPS2.out]
              exact ⟨i + q.1.length, i + q.1.length, !q.1.isEmpty, _, _, by rw [hln]; rfl, rfl, by go_num, rfl, by simp, by go_num, by omega, hql, Nat.le_refl _, by rw [hln]; exact hz2, HI2, HA4, HB3⟩
            case measure =>
              have := HEM.out
              rcases Nat.eq_zero_or_pos q.1.length with h | h
              · have he := this h
                subst he
                have hn : q.1 = [] := List.eq_nil_of_length_eq_zero h
                rw [hn]; simp [RowKit.intOf, bM]
              · cases e <;> cases hq1 : q.1.isEmpty <;> simp [RowKit.intOf, bM] <;> omega
end Go.Proofs.Ytnigbgablginnaa


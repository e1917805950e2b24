/- gobytes.Fields (turned from the strings' walk by mkBFl.py). -/
import Derived.Test.YtpaieadnicmplaaDoorBFlF
import Derived.Lib.TrimAscii
import Derived.BigCall
import Derived.BigGuard
import Derived.WalkKit
set_option linter.unusedVariables false
namespace Go.Proofs.YtpaieadnicmplaaDoor
open Go.Shelf Go.RowKit Go.Lib

/-- The bytes of a span. -/
def pcL (s : ByteArray) (x : Nat × Nat) : List UInt8 := (s.extract x.1 x.2).data.toList
theorem cellsV_set {b N : Nat} {done : List (Nat × Nat)} {x : Nat × Nat} (h : done.length < N) : (cellsOfV (done.map (pcV b)) N).setIfInBounds done.length (pcV b x) = cellsOfV ((done ++ [x]).map (pcV b)) N := by
  have := cellsOfV_set (done := done.map (pcV b)) (N := N) (by rw [List.length_map]; exact h) (pcV b x)
  rw [List.length_map] at this
  rw [this, List.map_append]; rfl
theorem ok_snoc {n fs i : Nat} {done : List (Nat × Nat)} (h : ∀ x ∈ done, x.1 < x.2 ∧ x.2 ≤ n) (h1 : fs < i) (h2 : i ≤ n) : ∀ x ∈ done ++ [(fs, i)], x.1 < x.2 ∧ x.2 ≤ n := fun x hx => by
  rcases List.mem_append.1 hx with h' | h'
  · exact h x h'
  · cases List.mem_singleton.1 h'; exact ⟨h1, h2⟩

set_option maxHeartbeats 16000000 in
set_option maxRecDepth 1000000 in
theorem gbFields_core (s : ByteArray) (b c : Nat) (w : World) (hBs : Lib.Bytes w b 0 s) (hb : b < w.heap.size) (hcap : s.size ≤ c) (hs : s.size < 4294967281) (hascii : ∀ (j : Nat) b, s.data.toList[j]? = some b → b.toNat < 128)
    (hT : ∀ c : Nat, c < 256 → w.cell? ⟨0, c, none⟩ = some (.int .u8 (if Lib.isSp (UInt8.ofNat c) then 1 else 0))) :
    Calls Tryd.prog 34 #[.slice (some ⟨b, 0, none⟩) s.size c] w fun e w' =>
      ∃ SP : List (Nat × Nat), e = .returned (.slice (some ⟨w.heap.size, 0, none⟩) SP.length SP.length) ∧ w' = w.alloc (.cells (SP.map (pcV b)).toArray 23) ∧ SP.map (pcL s) = Lib.fields s.data.toList ∧ ∀ x ∈ SP, x.1 < x.2 ∧ x.2 ≤ s.size := by
  have HB : Aside (Lib.Bytes w b 0 s) := hBs
  have HB1 : Aside (∀ o : Obj, Lib.Bytes (w.alloc o) b 0 s) := fun o => bytes_below hBs ((Below.refl _ w).alloc (Nat.le_refl _) _) hb
  clear hBs
  have HA : Aside (∀ (j : Nat) b, s.data.toList[j]? = some b → b.toNat < 128) := hascii
  have HT : Aside (∀ c : Nat, c < 256 → w.cell? ⟨0, c, none⟩ = some (.int .u8 (if Lib.isSp (UInt8.ofNat c) then 1 else 0))) := hT
  have HT1 : Aside (∀ (o : Obj) (c : Nat), c < 256 → (w.alloc o).cell? ⟨0, c, none⟩ = some (.int .u8 (if Lib.isSp (UInt8.ofNat c) then 1 else 0))) := fun o c hc => by
    rw [World.cell?_alloc_old _ _ _ (Nat.ne_of_lt (World.block_lt_of_cell? _ _ (hT c hc)))]; exact hT c hc
  clear hascii hT
  obtain ⟨N, hN⟩ : ∃ N : Nat, (Lib.fields s.data.toList).length = N := ⟨_, rfl⟩
  have hNc : Lib.cntF true s.data.toList = N := by rw [← Lib.fields_length]; exact hN
  have hlen : s.data.toList.length = s.size := (Lib.size_eq s).symm
  go_enter Tryd.func34, Tryd.ntmps34
  go_wp2
  -- ████ THE FIRST PASS: the fields are counted
  go_loopg [3, 4, 5, 6] s.size (fun g s3 s4 s5 s6 wx => w = wx ∧ ∃ (k nn sb : Nat) (ws : Bool), k ≤ s.size ∧ g = s.size - k ∧ s6 = .int .i64 k ∧ s3 = .int .i64 nn ∧ s4 = .int .i64 (if ws then 1 else 0) ∧ s5 = .int .u8 sb ∧ sb < 128 ∧ nn ≤ k ∧
    nn + Lib.cntF ws (s.data.toList.drop k) = N)
  case atStart => exact ⟨rfl, 0, 0, 0, true, Nat.zero_le _, rfl, rfl, rfl, rfl, rfl, by omega, Nat.le_refl _, by simpa using hNc⟩
  case round =>
    obtain ⟨rfl, k, nn, sb, ws, hk, rfl, rfl, rfl, rfl, rfl, hsb, hnk, hc⟩ := hrel
    by_cases hkn : k < s.size
    · have hkz : (k : Int) < (s.size : Int) := by omega
      obtain ⟨x, hx⟩ : ∃ x : UInt8, s[k] = x := ⟨_, rfl⟩
      have hxl : s.data.toList[k]? = some x := by rw [← hx]; exact Lib.data_getElem? s k hkn
      have hcx : w.cell? ⟨b, k, none⟩ = some (.int .u8 x.toNat) := by have := HB.out k hkn; rw [Nat.zero_add, hx] at this; exact this
      have hx128 : x.toNat < 128 := HA.out k x hxl
      have hxz : (x.toNat : Int) < 256 := by omega
      have hTx : w.cell? ⟨0, x.toNat, none⟩ = some (.int .u8 (if Lib.isSp x then 1 else 0)) := by have := HT.out x.toNat (by omega); simpa using this
      have hor : bits .or .u8 (sb : Int) (x.toNat : Int) = ((sb ||| x.toNat : Nat) : Int) := u8_or_nat _ _ (by omega) (by omega)
      have hor128 : sb ||| x.toNat < 128 := Nat.or_lt_two_pow (n := 7) hsb hx128
      rw [Lib.drop_at hxl, Lib.cntF_step] at hc
      have HC : Aside (nn + ((if ws && !Lib.isSp x then 1 else 0) + Lib.cntF (Lib.isSp x) (s.data.toList.drop (k + 1))) = N) := hc
      clear hc hxl
      have b00 := andNot00; have b01 := andNot01; have b10 := andNot10; have b11 := andNot11
      cases hsx : Lib.isSp x <;> cases ws <;> rw [hsx] at hTx <;> simp only [if_true, Bool.false_eq_true, if_false] at hTx ⊢ <;>
        (go_wp2
         go_roundg (s.size - (k + 1))
         case measure => omega
         case rel =>
           have hc := HC.out
           rw [hsx] at hc
           simp at hc
           first
             | exact ⟨rfl, k + 1, nn, sb ||| x.toNat, false, by omega, rfl, by first | rfl | simp, by first | rfl | (simp; unfold RowKit.wrap64; omega), rfl, by first | rfl | simp, hor128, by omega, by omega⟩
             | exact ⟨rfl, k + 1, nn + 1, sb ||| x.toNat, false, by omega, rfl, by first | rfl | simp, by first | rfl | (simp; unfold RowKit.wrap64; omega), rfl, by first | rfl | simp, hor128, by omega, by omega⟩
             | exact ⟨rfl, k + 1, nn, sb ||| x.toNat, true, by omega, rfl, by first | rfl | simp, by first | rfl | (simp; unfold RowKit.wrap64; omega), rfl, by first | rfl | simp, hor128, by omega, by omega⟩)
    · obtain rfl : k = s.size := by omega
      -- (✋ 'wasSpace' is dead from here on, BUT ITS SLOT HOLDS AN 'if': the walk parts on every 'if' that it sees: behind a variable)
      generalize (if ws = true then (1 : Int) else 0) = v4
      have hkz : ¬ ((s.size : Int) < (s.size : Int)) := by omega
      have hsbz : ¬ ((128 : Int) ≤ (sb : Int)) := by omega
      obtain rfl : N = nn := by rw [← hlen, List.drop_length] at hc; simpa [Lib.cntF] using hc.symm
      clear hc
      have hmk := run_make_row' (P := Tryd.prog) 38 23 (.slice none 0 0) 24 Tryd.underlying38 bsInfo rfl .i64 .i64 N (by omega) (by omega)
      go_upto_block 2 with fail
      clear hmk
      rw [← cellsOfV_nil]
      -- ████ WHITE SPACE IN FRONT IS PASSED OVER: the loop has two ways out (the string's end; a byte that is none): THEY MEET: all that follows is walked once
      go_cut [12] from 43 to 57 (fun s12 wx => (w.alloc (.cells (cellsOfV [] N) 23)) = wx ∧ ∃ i : Nat, i ≤ s.size ∧ s12 = .int .i64 i ∧ Lib.fieldsGo [] (s.data.toList.drop i) = Lib.fields s.data.toList ∧ ∀ y, s.data.toList[i]? = some y → Lib.isSp y = false)
      case first =>
        go_wp2_with fail
        go_loopg [12] s.size (fun g s12 wx => (w.alloc (.cells (cellsOfV [] N) 23)) = wx ∧ ∃ i : Nat, i ≤ s.size ∧ g = s.size - i ∧ s12 = .int .i64 i ∧ Lib.fieldsGo [] (s.data.toList.drop i) = Lib.fields s.data.toList)
        case atStart => exact ⟨rfl, 0, Nat.zero_le _, rfl, rfl, rfl⟩
        case round =>
          obtain ⟨rfl, i, hi, rfl, rfl, hf⟩ := hrel
          have HF : Aside (Lib.fieldsGo [] (s.data.toList.drop i) = Lib.fields s.data.toList) := hf
          clear hf
          by_cases hin : i < s.size
          · have hiz : (i : Int) < (s.size : Int) := by omega
            obtain ⟨x, hx⟩ : ∃ x : UInt8, s[i] = x := ⟨_, rfl⟩
            have hxl : s.data.toList[i]? = some x := by rw [← hx]; exact Lib.data_getElem? s i hin
            have hcx : (w.alloc (.cells (cellsOfV [] N) 23)).cell? ⟨b, i, none⟩ = some (.int .u8 x.toNat) := by have := (HB1.out (.cells (cellsOfV [] N) 23)) i hin; rw [Nat.zero_add, hx] at this; exact this
            have hx128 : x.toNat < 128 := HA.out i x hxl
            have hxz : (x.toNat : Int) < 256 := by omega
            have hTx : (w.alloc (.cells (cellsOfV [] N) 23)).cell? ⟨0, x.toNat, none⟩ = some (.int .u8 (if Lib.isSp x then 1 else 0)) := by have := HT1.out (.cells (cellsOfV [] N) 23) x.toNat (by omega); simpa using this
            have Hx : Aside (s.data.toList[i]? = some x) := hxl
            clear hxl
            cases hsx : Lib.isSp x <;> rw [hsx] at hTx <;> simp only [if_true, Bool.false_eq_true, if_false] at hTx
            · go_wp2
              go_meet
              exact ⟨rfl, i, hi, rfl, HF.out, fun y hy => by rw [Hx.out] at hy; cases hy; exact hsx⟩
            · go_wp2
              go_roundg (s.size - (i + 1))
              case measure => omega
              case rel => exact ⟨rfl, i + 1, by omega, rfl, by first | rfl | simp, by rw [← HF.out, Lib.drop_at Hx.out, Lib.fieldsGo_sp _ _ hsx]⟩
          · obtain rfl : i = s.size := by omega
            have hiz : ¬ ((s.size : Int) < (s.size : Int)) := by omega
            go_wp2
            go_meet
            exact ⟨rfl, s.size, Nat.le_refl _, rfl, HF.out, fun y hy => by rw [List.getElem?_eq_none (by omega)] at hy; cases hy⟩
      case rest =>
        obtain ⟨rfl, i0, hi0, rfl, hf0, hns0⟩ := hcut
        have H0 : Aside (Lib.fieldsGo [] (s.data.toList.drop i0) = Lib.fields s.data.toList ∧ ∀ y, s.data.toList[i0]? = some y → Lib.isSp y = false) := ⟨hf0, hns0⟩
        clear hf0 hns0
        go_wp2
        -- ████ THE FIELDS, one behind the other
        go_loopg [10, 11, 12] (s.size - i0) (fun g s10 s11 s12 wx => ∃ (done : List (Nat × Nat)) (fs i : Nat), s10 = .int .i64 done.length ∧ s11 = .int .i64 fs ∧ s12 = .int .i64 i ∧ fs ≤ i ∧ i ≤ s.size ∧ g = s.size - i ∧ wx = (w.alloc (.cells (cellsOfV (done.map (pcV b)) N) 23)) ∧
          done.map (fun x => (s.extract x.1 x.2).data.toList) ++ Lib.fieldsGo ((s.data.toList.drop fs).take (i - fs)) (s.data.toList.drop i) = Lib.fields s.data.toList ∧ (fs = i → ∀ y, s.data.toList[i]? = some y → Lib.isSp y = false) ∧ Hid (∀ x ∈ done, x.1 < x.2 ∧ x.2 ≤ s.size))
        case atStart => exact ⟨[], i0, i0, rfl, rfl, rfl, Nat.le_refl _, hi0, rfl, rfl, by rw [Lib.piece_nil]; exact H0.out.1, fun _ => H0.out.2, fun x hx => by cases hx⟩
        case round =>
          obtain ⟨done, fs, i, rfl, rfl, rfl, hfi, hi, rfl, rfl, hinv, hside, HOK⟩ := hrel
          clear H0
          by_cases hin : i < s.size
          · have hiz : (i : Int) < (s.size : Int) := by omega
            obtain ⟨x, hx⟩ : ∃ x : UInt8, s[i] = x := ⟨_, rfl⟩
            have hxl : s.data.toList[i]? = some x := by rw [← hx]; exact Lib.data_getElem? s i hin
            have hcx : (w.alloc (.cells (cellsOfV (done.map (pcV b)) N) 23)).cell? ⟨b, i, none⟩ = some (.int .u8 x.toNat) := by have := (HB1.out (.cells (cellsOfV (done.map (pcV b)) N) 23)) i hin; rw [Nat.zero_add, hx] at this; exact this
            have hx128 : x.toNat < 128 := HA.out i x hxl
            have hxz : (x.toNat : Int) < 256 := by omega
            have hTx : (w.alloc (.cells (cellsOfV (done.map (pcV b)) N) 23)).cell? ⟨0, x.toNat, none⟩ = some (.int .u8 (if Lib.isSp x then 1 else 0)) := by have := HT1.out (.cells (cellsOfV (done.map (pcV b)) N) 23) x.toNat (by omega); simpa using this
            have Hx : Aside (s.data.toList[i]? = some x) := hxl
            clear hxl
            cases hsx : Lib.isSp x <;> rw [hsx] at hTx <;> simp only [if_true, Bool.false_eq_true, if_false] at hTx
            · -- a byte of a field: 'i++; continue'
              have HI : Aside (done.map (fun x => (s.extract x.1 x.2).data.toList) ++ Lib.fieldsGo ((s.data.toList.drop fs).take (i - fs)) (s.data.toList.drop i) = Lib.fields s.data.toList) := hinv
              clear hinv hside
              go_wp2
              go_roundg (s.size - (i + 1))
              case measure => omega
              case rel => exact ⟨done, fs, i + 1, rfl, rfl, by first | rfl | simp, by omega, by omega, rfl, rfl, by rw [Lib.piece_more hfi Hx.out, ← Lib.fieldsGo_more _ _ _ hsx, ← Lib.drop_at Hx.out]; exact HI.out, fun h => by omega, HOK⟩
            · -- white space: the field ends here: 'a[na] = s[fieldStart:i]; na++; i++'
              have hlt : fs < i := by
                refine Nat.lt_of_le_of_ne hfi fun h => ?_
                have := hside h x Hx.out
                rw [hsx] at this
                cases this
              rw [Lib.drop_at Hx.out, Lib.fieldsGo_end _ _ _ hsx (Lib.piece_ne hlt (by omega))] at hinv
              have hdN : done.length < N := by
                have := congrArg List.length hinv
                rw [hN] at this
                simp at this
                omega
              have hnext : (cellsOfV (done.map (pcV b)) N)[done.length]? = some (.slice none 0 0) := by have := cellsOfV_next (done := done.map (pcV b)) (N := N) (by rw [List.length_map]; omega); rw [List.length_map] at this; exact this
              have hdz : ((done.length : Nat) : Int) < (N : Int) := by omega
              have c1 : (fs : Int) ≤ (i : Int) := by omega
              have c2 : (i : Int) ≤ (s.size : Int) := by omega
              have c3 : (i : Int) ≤ (c : Int) := by omega
              have c4 : ¬ i = fs := by omega
              obtain ⟨D, hD⟩ : ∃ D, D = done ++ [(fs, i)] := ⟨_, rfl⟩
              have HDl : D.length = done.length + 1 := by rw [hD]; simp
              have HOK' : Hid (∀ x ∈ D, x.1 < x.2 ∧ x.2 ≤ s.size) := by show ∀ x ∈ D, _; rw [hD]; exact ok_snoc HOK.out (by omega) (by omega)
              have HSET : Hid ((cellsOfV (done.map (pcV b)) N).setIfInBounds done.length (pcV b (fs, i)) = cellsOfV (D.map (pcV b)) N) := by show _ = _; rw [hD]; exact cellsV_set hdN
              have HI : Aside (D.map (fun x => (s.extract x.1 x.2).data.toList) ++ Lib.fieldsGo [] (s.data.toList.drop (i + 1)) = Lib.fields s.data.toList) := by
                show _ = _
                rw [hD, ← hinv, List.map_append, List.map_cons, List.map_nil, Lib.extract_data]
                simp
              clear hinv hside hD
              go_wp2
              rw [show (cellsOfV (done.map (pcV b)) N).setIfInBounds done.length (Value.slice (some ⟨b, fs, none⟩) (i - fs) (i - fs)) = _ from HSET.out]
              clear hnext hTx
              -- ████ white space between fields is passed over
              go_loopg [12] (s.size - (i + 1)) (fun g s12 wx => (w.alloc (.cells (cellsOfV (D.map (pcV b)) N) 23)) = wx ∧ ∃ j : Nat, i + 1 ≤ j ∧ j ≤ s.size ∧ g = s.size - j ∧ s12 = .int .i64 j ∧ Lib.fieldsGo [] (s.data.toList.drop j) = Lib.fieldsGo [] (s.data.toList.drop (i + 1)))
              case atStart => exact ⟨rfl, i + 1, Nat.le_refl _, by omega, rfl, by first | rfl | simp, rfl⟩
              case round =>
                obtain ⟨rfl, j, hij, hj, rfl, rfl, hfj⟩ := hrel
                have HJ : Aside (Lib.fieldsGo [] (s.data.toList.drop j) = Lib.fieldsGo [] (s.data.toList.drop (i + 1))) := hfj
                clear hfj hx Hx hx128 hxz hsx
                by_cases hjn : j < s.size
                · have hjz : (j : Int) < (s.size : Int) := by omega
                  obtain ⟨x, hx⟩ : ∃ x : UInt8, s[j] = x := ⟨_, rfl⟩
                  have hxl : s.data.toList[j]? = some x := by rw [← hx]; exact Lib.data_getElem? s j hjn
                  have hcx : (w.alloc (.cells (cellsOfV (D.map (pcV b)) N) 23)).cell? ⟨b, j, none⟩ = some (.int .u8 x.toNat) := by have := (HB1.out (.cells (cellsOfV (D.map (pcV b)) N) 23)) j hjn; rw [Nat.zero_add, hx] at this; exact this
                  have hx128 : x.toNat < 128 := HA.out j x hxl
                  have hxz : (x.toNat : Int) < 256 := by omega
                  have hTx : (w.alloc (.cells (cellsOfV (D.map (pcV b)) N) 23)).cell? ⟨0, x.toNat, none⟩ = some (.int .u8 (if Lib.isSp x then 1 else 0)) := by have := HT1.out (.cells (cellsOfV (D.map (pcV b)) N) 23) x.toNat (by omega); simpa using this
                  have Hx : Aside (s.data.toList[j]? = some x) := hxl
                  clear hxl
                  cases hsx : Lib.isSp x <;> rw [hsx] at hTx <;> simp only [if_true, Bool.false_eq_true, if_false] at hTx
                  · go_wp2
                    go_roundg (s.size - j)
                    case measure => omega
                    case rel => exact ⟨D, j, j, by rw [HDl]; first | rfl | simp, rfl, rfl, Nat.le_refl _, hj, rfl, rfl, by rw [Lib.piece_nil, HJ.out]; exact HI.out, fun _ y hy => by rw [Hx.out] at hy; cases hy; exact hsx, HOK'⟩
                  · go_wp2
                    go_roundg (s.size - (j + 1))
                    case measure => omega
                    case rel => exact ⟨rfl, j + 1, by omega, by omega, rfl, by first | rfl | simp, by rw [← HJ.out, Lib.drop_at Hx.out, Lib.fieldsGo_sp _ _ hsx]⟩
                · obtain rfl : j = s.size := by omega
                  have hjz : ¬ ((s.size : Int) < (s.size : Int)) := by omega
                  go_wp2
                  go_roundg (s.size - s.size)
                  case measure => omega
                  case rel => exact ⟨D, s.size, s.size, by rw [HDl]; first | rfl | simp, rfl, rfl, Nat.le_refl _, Nat.le_refl _, rfl, rfl, by rw [Lib.piece_nil, HJ.out]; exact HI.out, (fun _ y hy => by rw [List.getElem?_eq_none (by omega)] at hy; cases hy), HOK'⟩
          · -- the string's end: 'if fieldStart < len(s) { a[na] = s[fieldStart:] }; return a'
            obtain rfl : i = s.size := by omega
            have hiz : ¬ ((s.size : Int) < (s.size : Int)) := by omega
            rw [← hlen, List.drop_length, hlen] at hinv
            clear hside
            by_cases hfl : fs < s.size
            · have hflz : (fs : Int) < (s.size : Int) := by omega
              have hne := Lib.piece_ne (l := s.data.toList) hfl (by omega)
              have e1 : Lib.fieldsGo ((s.data.toList.drop fs).take (s.size - fs)) [] = [(s.data.toList.drop fs).take (s.size - fs)] := by
                cases hc : (s.data.toList.drop fs).take (s.size - fs) with
                | nil => exact absurd hc hne
                | cons _ _ => rfl
              rw [e1] at hinv
              have hfin : (done ++ [(fs, s.size)]).map (fun x => (s.extract x.1 x.2).data.toList) = Lib.fields s.data.toList := by rw [← hinv, List.map_append, List.map_cons, List.map_nil, Lib.extract_data]
              have hdN : done.length + 1 = N := by
                have := congrArg List.length hfin
                rw [hN] at this
                simpa using this
              have hnext : (cellsOfV (done.map (pcV b)) N)[done.length]? = some (.slice none 0 0) := by have := cellsOfV_next (done := done.map (pcV b)) (N := N) (by rw [List.length_map]; omega); rw [List.length_map] at this; exact this
              have hdz : ((done.length : Nat) : Int) < (N : Int) := by omega
              have HFin : Aside ((done ++ [(fs, s.size)]).map (fun x => (s.extract x.1 x.2).data.toList) = Lib.fields s.data.toList) := hfin
              clear hinv hfin e1 hne
              have c3 : (s.size : Int) ≤ (c : Int) := by omega
              have c4 : ¬ s.size = fs := by omega
              have HSET := hidS (cellsV_set (b := b) (done := done) (N := N) (x := (fs, s.size)) (by omega))
              have HLN : Hid ((done ++ [(fs, s.size)]).length = N) := by show _ = _; simp; omega
              go_wp2
              go_ret
              refine ⟨done ++ [(fs, s.size)], by rw [HLN.out]; rfl, ?_, HFin.out, fun a b h => ok_snoc HOK.out (by omega) (Nat.le_refl _) (a, b) h⟩
              rw [show (cellsOfV (done.map (pcV b)) N).setIfInBounds done.length (Value.slice (some ⟨b, fs, none⟩) (s.size - fs) (s.size - fs)) = _ from HSET.out]
              rw [show N = ((done ++ [(fs, s.size)]).map (pcV b)).length by rw [List.length_map, HLN.out], cellsOfV_full]
            · obtain rfl : fs = s.size := by omega
              have hflz : ¬ ((s.size : Int) < (s.size : Int)) := by omega
              rw [Lib.piece_nil] at hinv
              have hfin : done.map (fun x => (s.extract x.1 x.2).data.toList) = Lib.fields s.data.toList := by simpa [Lib.fieldsGo] using hinv
              have hdN : done.length = N := by
                have := congrArg List.length hfin
                rw [hN] at this
                simpa using this
              have HFin : Aside (done.map (fun x => (s.extract x.1 x.2).data.toList) = Lib.fields s.data.toList) := hfin
              have HLN := hidS hdN
              clear hinv hfin
              go_wp2
              go_ret
              refine ⟨done, by rw [HLN.out]; rfl, ?_, HFin.out, fun a b h => HOK.out (a, b) h⟩
              rw [show N = (done.map (pcV b)).length by rw [List.length_map, HLN.out], cellsOfV_full]


set_option maxHeartbeats 8000000 in
set_option maxRecDepth 1000000 in
theorem gbFields_beyond (s : ByteArray) (b c : Nat) (w : World) (hBs : Lib.Bytes w b 0 s) (hb : b < w.heap.size) (hcap : s.size ≤ c) (hs : s.size ≤ 2147483648) (hhigh : ∃ (j : Nat) (b : UInt8), s.data.toList[j]? = some b ∧ 128 ≤ b.toNat)
    (hT : ∀ c : Nat, c < 256 → w.cell? ⟨0, c, none⟩ = some (.int .u8 (if Lib.isSp (UInt8.ofNat c) then 1 else 0))) (hU : Tabs w) (hW : White w) :
    Calls Tryd.prog 34 #[.slice (some ⟨b, 0, none⟩) s.size c] w (BssR (Lib.goFieldsP Lib.isSpaceR s) w) := by
  have cF := gbFieldsFunc s b c w hBs hb hcap hs hU hW
  generalize Lib.goFieldsP Lib.isSpaceR s = GF at cF ⊢
  have HB : Aside (Lib.Bytes w b 0 s) := hBs
  clear hBs hU
  have HH : Aside (∃ (j : Nat) (b : UInt8), s.data.toList[j]? = some b ∧ 128 ≤ b.toNat) := hhigh
  have HT : Aside (∀ c : Nat, c < 256 → w.cell? ⟨0, c, none⟩ = some (.int .u8 (if Lib.isSp (UInt8.ofNat c) then 1 else 0))) := hT
  clear hhigh hT hW
  have hlen : s.data.toList.length = s.size := (Lib.size_eq s).symm
  go_enter Tryd.func34, Tryd.ntmps34
  go_wp2
  go_loopg [3, 4, 5, 6] s.size (fun g s3 s4 s5 s6 wx => w = wx ∧ ∃ (k nn sb : Nat) (ws : Bool), k ≤ s.size ∧ g = s.size - k ∧ s6 = .int .i64 k ∧ s3 = .int .i64 nn ∧ s4 = .int .i64 (if ws then 1 else 0) ∧ s5 = .int .u8 sb ∧ sb < 256 ∧ nn ≤ k ∧
    Aside (128 ≤ sb ↔ ∃ (j : Nat) (b : UInt8), j < k ∧ s.data.toList[j]? = some b ∧ 128 ≤ b.toNat))
  case atStart => exact ⟨rfl, 0, 0, 0, true, Nat.zero_le _, rfl, rfl, rfl, rfl, rfl, by omega, Nat.le_refl _, ⟨fun h => by omega, fun ⟨j, b, hj, _⟩ => by omega⟩⟩
  case round =>
    obtain ⟨rfl, k, nn, sb, ws, hk, rfl, rfl, rfl, rfl, rfl, hsb, hnk, hc⟩ := hrel
    by_cases hkn : k < s.size
    · have hkz : (k : Int) < (s.size : Int) := by omega
      obtain ⟨x, hx⟩ : ∃ x : UInt8, s[k] = x := ⟨_, rfl⟩
      have hxl : s.data.toList[k]? = some x := by rw [← hx]; exact Lib.data_getElem? s k hkn
      have hcx : w.cell? ⟨b, k, none⟩ = some (.int .u8 x.toNat) := by have := HB.out k hkn; rw [Nat.zero_add, hx] at this; exact this
      have hx256 := x.toNat_lt
      have hxz : (x.toNat : Int) < 256 := by omega
      have hTx : w.cell? ⟨0, x.toNat, none⟩ = some (.int .u8 (if Lib.isSp x then 1 else 0)) := by have := HT.out x.toNat (by omega); simpa using this
      have hor : bits .or .u8 (sb : Int) (x.toNat : Int) = ((sb ||| x.toNat : Nat) : Int) := u8_or_nat _ _ (by omega) (by omega)
      have hor256 : sb ||| x.toNat < 256 := Nat.or_lt_two_pow (n := 8) hsb (by omega)
      have HC : Aside (128 ≤ (sb ||| x.toNat) ↔ ∃ (j : Nat) (b : UInt8), j < k + 1 ∧ s.data.toList[j]? = some b ∧ 128 ≤ b.toNat) := by
        show _ ↔ _
        rw [Lib.or_hi, hc.out]
        constructor
        · rintro (⟨j, b, hj, hb, h8⟩ | h8)
          · exact ⟨j, b, by omega, hb, h8⟩
          · exact ⟨k, x, by omega, hxl, h8⟩
        · rintro ⟨j, b, hj, hb, h8⟩
          by_cases e : j = k
          · subst e
            rw [hxl] at hb
            cases hb
            exact .inr h8
          · exact .inl ⟨j, b, by omega, hb, h8⟩
      clear hc hxl
      have b00 := andNot00; have b01 := andNot01; have b10 := andNot10; have b11 := andNot11
      cases hsx : Lib.isSp x <;> cases ws <;> rw [hsx] at hTx <;> simp only [if_true, Bool.false_eq_true, if_false] at hTx ⊢ <;>
        (go_wp2
         go_roundg (s.size - (k + 1))
         case measure => omega
         case rel =>
           first
             | exact ⟨rfl, k + 1, nn, sb ||| x.toNat, false, by omega, rfl, by first | rfl | simp, by first | rfl | (simp; unfold RowKit.wrap64; omega), rfl, by first | rfl | simp, hor256, by omega, HC⟩
             | exact ⟨rfl, k + 1, nn + 1, sb ||| x.toNat, false, by omega, rfl, by first | rfl | simp, by first | rfl | (simp; unfold RowKit.wrap64; omega), rfl, by first | rfl | simp, hor256, by omega, HC⟩
             | exact ⟨rfl, k + 1, nn, sb ||| x.toNat, true, by omega, rfl, by first | rfl | simp, by first | rfl | (simp; unfold RowKit.wrap64; omega), rfl, by first | rfl | simp, hor256, by omega, HC⟩)
    · obtain rfl : k = s.size := by omega
      generalize (if ws = true then (1 : Int) else 0) = v4
      have hkz : ¬ ((s.size : Int) < (s.size : Int)) := by omega
      have hsbz : (128 : Int) ≤ (sb : Int) := by
        obtain ⟨j, b, hb, h8⟩ := HH.out
        have hj : j < s.size := by rw [← hlen]; exact (List.getElem?_eq_some_iff.1 hb).1
        have := hc.out.2 ⟨j, b, hj, hb, h8⟩
        omega
      clear hc
      go_wp2_with (go_at_call 49; refine cF.mono ?_; rintro e w' ⟨v, rfl, hA1, hA2⟩)
      go_ret
      exact ⟨v, rfl, hA1, hA2⟩


end Go.Proofs.YtpaieadnicmplaaDoor

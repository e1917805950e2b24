/- (*byteReplacer).Replace. -/
import Derived.Test.YtnigbgablginnaaNewR
import Derived.Lib.SmallJoins
set_option linter.unusedVariables false
namespace Go.Proofs.Ytnigbgablginnaa
open Go.RowKit Go.Lib

/-- What Replace hands back. -/
def Rpd (out : Bs) (w : World) (e : Ending) (w' : World) : Prop := e = .returned (.string ⟨out.toArray⟩) ∧ Below w.heap.size w w'
/-- A row with the first k bytes turned. -/
structure RowR (w0 w : World) (b : Nat) (s : ByteArray) (R : Nat → Nat) (k : Nat) : Prop where
  ge : w0.heap.size ≤ b
  nf : ∀ o, o < s.size → w.frozen? ⟨b, o, none⟩ = false
  c : ∀ j, j < s.size → w.cell? ⟨b, j, none⟩ = some (.int .u8 ((if j < k then R (bt s j).toNat else (bt s j).toNat : Nat)))
theorem RowR.set {w0 w : World} {b : Nat} {s : ByteArray} {R : Nat → Nat} {k : Nat} (h : RowR w0 w b s R k) (hk : k < s.size) : RowR w0 (w.setCell ⟨b, k, none⟩ (.int .u8 (R (bt s k).toNat))) b s R (k + 1) := by
  refine ⟨h.ge, fun o ho => by rw [World.frozen?_setCell]; exact h.nf o ho, fun j hj => ?_⟩
  by_cases e : j = k
  · subst e; rw [if_pos (by omega)]; exact World.cell?_setCell_same _ _ _ (h.c j hj)
  · rw [World.cell?_setCell_other _ _ _ _ (fun e2 => e (congrArg Addr.off e2).symm), h.c j hj]
    by_cases h' : j < k
    · rw [if_pos h', if_pos (by omega)]
    · rw [if_neg h', if_neg (by omega)]
theorem RowR.step {w0 w : World} {b : Nat} {s : ByteArray} {R : Nat → Nat} {k : Nat} (h : RowR w0 w b s R k) (he : R (bt s k).toNat = (bt s k).toNat) : RowR w0 w b s R (k + 1) := by
  refine ⟨h.ge, h.nf, fun j hj => ?_⟩
  rw [h.c j hj]
  by_cases e : j = k
  · subst e; rw [if_neg (by omega), if_pos (by omega), he]
  · by_cases h' : j < k
    · rw [if_pos h', if_pos (by omega)]
    · rw [if_neg h', if_neg (by omega)]
theorem RowR.made {w : World} (w0 : World) (s : ByteArray) (R : Nat → Nat) (k : Nat) (hb : w0.heap.size ≤ w.heap.size) (he : ∀ j, j < k → R (bt s j).toNat = (bt s j).toNat) : RowR w0 (cvW2 w s) w.heap.size s R k := by
  refine ⟨hb, fun o ho => ?_, fun j hj => ?_⟩
  · have hh := Lib.bytesWorld_at_new w 5 s
    have hc : s.size ≤ (Lib.bytesCells w 5 s).size := by
      have := cv_bytes2 s w (s.size - 1) (by omega)
      rw [Nat.zero_add] at this
      unfold cvW2 World.cell? at this
      rw [hh] at this
      have h3 : s.size - 1 < (Lib.bytesCells w 5 s).size := (Array.getElem?_eq_some_iff.1 this).1
      omega
    unfold cvW2 World.frozen?
    rw [hh]
    show (decide _ && decide _) = false
    rw [Bool.and_eq_false_iff]
    left
    exact decide_eq_false (by show ¬ (Lib.bytesCells w 5 s).size ≤ o; omega)
  · have := cv_bytes2 s w j hj
    rw [Nat.zero_add] at this
    rw [this, ← bt_at s j hj]
    by_cases h' : j < k
    · rw [if_pos h', he j h']
    · rw [if_neg h']
theorem RowR.bytes {w0 w : World} {b : Nat} {s : ByteArray} {R : Nat → Nat} (h : RowR w0 w b s R s.size) (hR : ∀ c : UInt8, R c.toNat < 256) : Lib.Bytes w b 0 ⟨(s.data.toList.map (fun c => UInt8.ofNat (R c.toNat))).toArray⟩ := by
  intro i hi
  have hi' : i < s.size := by
    have : i < (s.data.toList.map (fun c => UInt8.ofNat (R c.toNat))).toArray.size := hi
    simpa using this
  rw [Nat.zero_add, h.c i hi', if_pos hi']
  have e : (⟨(s.data.toList.map (fun c => UInt8.ofNat (R c.toNat))).toArray⟩ : ByteArray)[i] = UInt8.ofNat (R (bt s i).toNat) := by
    rw [bt_at s i hi']
    show (List.toArray (s.data.toList.map _))[i]'_ = _
    simp
    rfl
  rw [e, UInt8.toNat_ofNat', Nat.mod_eq_of_lt (hR _)]
def BufIs (w0 w : World) (s : ByteArray) (R : Nat → Nat) (k : Nat) (v : Value) : Prop :=
  (v = .slice none 0 0 ∧ ∀ j, j < k → R (bt s j).toNat = (bt s j).toNat) ∨ (∃ b c, v = .slice (some ⟨b, 0, none⟩) s.size c ∧ s.size ≤ c ∧ b < w.heap.size ∧ RowR w0 w b s R k)
theorem map_same (s : ByteArray) (R : Nat → Nat) (h : ∀ j, j < s.size → R (bt s j).toNat = (bt s j).toNat) : (⟨(s.data.toList.map (fun c => UInt8.ofNat (R c.toNat))).toArray⟩ : ByteArray) = s := by
  have : s.data.toList.map (fun c => UInt8.ofNat (R c.toNat)) = s.data.toList := by
    conv => rhs; rw [← List.map_id s.data.toList]
    apply List.map_congr_left
    intro c hc
    obtain ⟨j, hj, e⟩ := List.getElem_of_mem hc
    have hj' : j < s.size := by simpa using hj
    have e2 : bt s j = c := by
      have := bt_get s j hj'
      rw [List.getElem?_eq_getElem hj, e] at this
      exact (Option.some.inj this).symm
    have := h j hj'
    rw [e2] at this
    rw [this]; simp
  rw [this]

set_option maxRecDepth 100000 in
set_option maxHeartbeats 4000000 in
theorem byteRep (B : Nat) (R : Nat → Nat) (s : ByteArray) (w : World) (hT : TabAt w B R) (hR : ∀ c : UInt8, R c.toNat < 256) (hs : s.size ≤ 140737488355328) :
    Calls Try.prog 89 #[at0 B, .string s] w (Rpd (s.data.toList.map (fun c => UInt8.ofNat (R c.toNat))) w) := by
  have HT := Lib.hid hT
  have HR := Lib.hid hR
  have hBl := hT.lt
  have q : ∀ (w : World) (a : Option Addr) (n c n' c' : Nat), (binOp .eql 41 (.slice a n c) (.slice none n' c')).run Try.prog w = .ok (.bool a.isNone) w := fun w a n c n' c' => Lib.run_eql_slice_nil w _ _ a n c n' c' Try.underlying41
  have hcv := fun W => cv_run2 s W
  clear hT hR
  go_enter Try.func89, Try.ntmps89
  go_wp2_with fail
  go_loopw [5, 6] (fun bv iv wr => ∃ k : Nat, k ≤ s.size ∧ iv = .int .i64 k ∧ Hid (BufIs w wr s R k bv) ∧ Hid (Below w.heap.size w wr)) (fun _ iv _ => s.size - (RowKit.intOf iv).toNat)
  case atStart => exact ⟨0, Nat.zero_le _, rfl, Lib.hid (.inl ⟨rfl, fun j hj => absurd hj (Nat.not_lt_zero _)⟩), Lib.hid (Below.refl _ _)⟩
  case round =>
    obtain ⟨k, hk, rfl, HF, HB⟩ := hrel
    by_cases hlt : k < s.size
    · have hb256 := (s[k]).toNat_lt
      have hbt : bt s k = s[k] := bt_at s k hlt
      have HBT := Lib.hid hbt
      have cc := (HB.out.cell (p := ⟨B, (s[k]).toNat, none⟩) hBl).trans (HT.out.c (s[k]).toNat hb256)
      clear hbt
      by_cases hsame : R (s[k]).toNat = (s[k]).toNat
      · have hd : (((R (s[k]).toNat : Nat) : Int) != (((s[k]).toNat : Nat) : Int)) = false := by rw [hsame]; simp
        have HSM := Lib.hid hsame
        clear hsame
        go_wp2_with fail
        go_roundw
        case rel =>
          refine ⟨k + 1, by omega, by go_num, Lib.hid ?_, HB⟩
          rcases HF.out with ⟨h1, h2⟩ | ⟨b, c, h1, h2, h3, h4⟩
          · refine .inl ⟨h1, fun j hj => ?_⟩
            by_cases e : j = k
            · subst e; rw [HBT.out]; exact HSM.out
            · exact h2 j (by omega)
          · exact .inr ⟨b, c, h1, h2, h3, h4.step (by rw [HBT.out]; exact HSM.out)⟩
        case measure => simp [RowKit.intOf]; omega
      · have hd : (((R (s[k]).toNat : Nat) : Int) != (((s[k]).toNat : Nat) : Int)) = true := by rw [bne_iff_ne]; omega
        clear hsame
        rcases HF.out with ⟨rfl, h2⟩ | ⟨b, c, rfl, h2, h3, h4⟩
        · have hrm : Hid (RowR w (cvW2 wr s) wr.heap.size s R k) := Lib.hid (RowR.made w s R k HB.out.size h2)
          have hrw : wr.heap.size ≠ B := fun e => by have := HB.out.size; omega
          have ck := hrm.out.c k hlt
          have fk := hrm.out.nf k hlt
          have cc2 := (cv_cell2 s wr B (s[k]).toNat (Nat.lt_of_lt_of_le hBl HB.out.size)).trans cc
          have HB2 : Hid (Below w.heap.size w (cvW2 wr s)) := Lib.hid (HB.out.trans ((cv_below2 s wr).mono HB.out.size))
          have hz2 := cv_size2 s wr
          have hcvw := hcv wr
          have hcc2 : s.size ≤ cvN2 wr s := grownCap_ge _ _ _ _
          have HS := HB.out.size
          clear h2 HF HB
          generalize cvN2 wr s = cn at hcvw hcc2
          generalize cvW2 wr s = W2 at hcvw hrm ck fk cc2 HB2 hz2
          generalize wr.heap.size = b at hcvw hrm ck fk hz2 hrw HS
          clear hcv
          go_wp2_with fail
          go_roundw
          case rel =>
            refine ⟨k + 1, by omega, by go_num, Lib.hid (.inr ⟨b, cn, rfl, hcc2, by rw [World.size_setCell]; omega, ?_⟩), Lib.hid (HB2.out.setCell HS _)⟩
            have := hrm.out.set hlt
            rw [HBT.out] at this
            exact this
          case measure => simp [RowKit.intOf]; omega
        · have H4 := Lib.hid h4
          have ck := h4.c k hlt
          have fk := h4.nf k hlt
          clear h4 HF
          go_wp2_with fail
          go_roundw
          case rel =>
            refine ⟨k + 1, by omega, by go_num, Lib.hid (.inr ⟨b, c, rfl, h2, by rw [World.size_setCell]; omega, ?_⟩), Lib.hid (HB.out.setCell H4.out.ge _)⟩
            have := H4.out.set hlt
            rw [HBT.out] at this
            exact this
          case measure => simp [RowKit.intOf]; omega
    · have HK : Hid (k = s.size) := Lib.hid (by omega)
      have hge : ¬ ((k : Int) < (s.size : Int)) := by omega
      rcases HF.out with ⟨rfl, h2⟩ | ⟨b, c, rfl, h2, h3, h4⟩
      · have HE := Lib.hid (map_same s R (fun j hj => h2 j (by rw [HK.out]; exact hj)))
        clear h2 HF
        go_wp2_with fail
        go_ret
        exact ⟨by rw [HE.out]; rfl, HB.out⟩
      · have hcw : (convert 41 9 (.slice (some ⟨b, 0, none⟩) s.size c)).run Try.prog wr = .ok (.string ⟨(s.data.toList.map (fun c => UInt8.ofNat (R c.toNat))).toArray⟩) wr := by
          have hby := (HK.out ▸ h4 : RowR w wr b s R s.size).bytes HR.out
          have hsz : (⟨(s.data.toList.map (fun c => UInt8.ofNat (R c.toNat))).toArray⟩ : ByteArray).size = s.size := by
            show (List.toArray _).size = _
            simp
          have hcw := Lib.run_convert_whole (P := Try.prog) wr 41 5 9 Try.underlying41 Try.underlying5 Try.underlying9 b 0 _ hby c
          rw [hsz] at hcw
          exact hcw
        clear h4 HF
        go_wp2_with fail
        go_ret
        exact ⟨rfl, HB.out⟩
end Go.Proofs.Ytnigbgablginnaa

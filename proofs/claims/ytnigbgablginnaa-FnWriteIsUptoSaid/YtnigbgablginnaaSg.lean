/- The replacer of one old text: makeSingleStringReplacer, Replace, ZZSingle. -/
import Derived.Test.YtnigbgablginnaaFinN
import Derived.Test.YtnigbgablginnaaGr
import Derived.Lib.ReplaceLaws
import Derived.Lib.SlicesS
set_option linter.unusedVariables false
namespace Go.Proofs.Ytnigbgablginnaa
open Go.RowKit Go.Lib

/-- A replacer of one old text in memory: block R its two fields. -/
structure SgAt (w : World) (R F G : Nat) (p v : ByteArray) (S : Nat → Nat) : Prop where
  r0 : w.cell? ⟨R, 0, none⟩ = some (.pointer (some ⟨F, 0, none⟩))
  r1 : w.cell? ⟨R, 1, none⟩ = some (.string v)
  fin : FinAt w F G p (bc p) S
  good : GoodOk p S (p.size - 1)
theorem SgAt.below {w w' : World} {R F G : Nat} {p v : ByteArray} {S : Nat → Nat} (h : SgAt w R F G p v S) (hb : Below w.heap.size w w') : SgAt w' R F G p v S :=
  ⟨cell_later hb h.r0, cell_later hb h.r1, h.fin.below hb, h.good⟩

def SgMade (p v : ByteArray) (w : World) (e : Ending) (w' : World) : Prop := ∃ (R F G : Nat) (S : Nat → Nat), e = .returned (.pointer (some ⟨R, 0, none⟩)) ∧ SgAt w' R F G p v S ∧ Below w.heap.size w w' ∧ w.heap.size ≤ R ∧ w.heap.size ≤ F ∧ w.heap.size ≤ G

set_option maxRecDepth 100000 in
set_option maxHeartbeats 1000000 in
theorem makeSingle (p v : ByteArray) (w : World) (hp : p.size ≤ 2147483647) (h1 : 1 ≤ p.size) :
    Calls Try.prog 50 #[.string p, .string v] w (SgMade p v w) := by
  go_enter Try.func50, Try.ntmps50
  go_wp2_with fail
  refine (makeFinder p _ hp h1).mono ?_
  rintro e w1 ⟨F, G, S, rfl, hA, hG, hF1, hG1, hB⟩
  have HA := Lib.hid hA
  have HG := Lib.hid hG
  have HB := Lib.hid hB
  have HF1 := Lib.hid hF1
  have HG1 := Lib.hid hG1
  clear hA hB hG hF1 hG1
  go_wp2_with fail
  go_ret
  refine ⟨w1.heap.size, F, G, S, rfl, ⟨?_, ?_, HA.out.below ((Below.refl _ w1).alloc (Nat.le_refl _) _), HG.out⟩, HB.out.alloc HB.out.size _, HB.out.size, HF1.out, HG1.out⟩
  · rw [World.cell?_alloc_at _ _ _ _ rfl]; rfl
  · rw [World.cell?_alloc_at _ _ _ _ rfl]; rfl

theorem hidG {p : Prop} (h : p) : Hid p := h
theorem byteCells_one (l : List UInt8) : ∀ v ∈ Lib.byteCells l, v.oneCell' = true := by
  intro v hv
  simp [Lib.byteCells] at hv
  obtain ⟨c, _, rfl⟩ := hv
  rfl

set_option maxHeartbeats 16000000 in
set_option maxRecDepth 1000000 in
theorem sgReplace (R F G : Nat) (p v s : ByteArray) (S : Nat → Nat) (w : World) (hA : SgAt w R F G p v S) (hs : s.size ≤ 2147483647) (h1 : 1 ≤ p.size) (hp : p.size ≤ 2147483647) (K : Nat) (hK : K = Lib.count s.data.toList p.data.toList)
    (hlen : 3 * (s.size + (K + 1) * v.size) ≤ 140737488355328) :
    Calls Try.prog 51 #[.pointer (some ⟨R, 0, none⟩), .string s] w fun e w' =>
      e = .returned (.string ⟨(Lib.replaceK p.data.toList v.data.toList K s.data.toList).toArray⟩) ∧ Below w.heap.size w w' := by
  have HA := Lib.hid hA
  have hlenL : s.data.toList.length = s.size := (Lib.size_eq s).symm
  have hlenO : p.data.toList.length = p.size := (Lib.size_eq p).symm
  have hKs : (K + 1) * v.size = K * v.size + v.size := Nat.succ_mul _ _
  have HKd := Lib.hid hK
  clear hA hK
  go_enter Try.func51, Try.ntmps51
  go_wp2_with fail
  have H0 : Hid (Lib.IsBuilder 90 5 w.heap.size w.heap.size (Lib.byteCells []) (w.alloc (.cells #[.pointer none, .slice none 0 0] 90))) := hidG (Or.inl ⟨Nat.le_refl _, _, heap_alloc_new w _, World.ownsRow_nil _ _ _ _, by simp [Value.ownBlock]⟩)
  have Hb0 := hidG ((Below.refl w.heap.size w).alloc (Nat.le_refl _) (.cells #[.pointer none, .slice none 0 0] 90))
  go_loopg [6, 7] K (fun g s6 s7 wx => ∃ (start : Nat) (m : Bool) (acc : List UInt8), s6 = .int .i64 start ∧ s7 = .bool m ∧ (m = false → start = 0 ∧ acc = [] ∧ g = K) ∧ start ≤ s.size ∧
      Hid (Lib.IsBuilder 90 5 w.heap.size w.heap.size (Lib.byteCells acc) wx) ∧ Hid (Below w.heap.size w wx) ∧ Hid (acc ++ Lib.replaceK p.data.toList v.data.toList g (s.data.toList.drop start) = Lib.replaceK p.data.toList v.data.toList K s.data.toList) ∧
      Hid (g = Lib.count (s.data.toList.drop start) p.data.toList) ∧ acc.length + (s.size - start) + g * v.size ≤ s.size + K * v.size)
  case atStart => exact ⟨0, false, [], rfl, rfl, fun _ => ⟨rfl, rfl, rfl⟩, Nat.zero_le _, H0, Hb0, hidG (by simp), hidG (by rw [List.drop_zero]; exact HKd.out), by simp⟩
  case round =>
    obtain ⟨start, m, acc, rfl, rfl, hm, hst, HB, HW, HR, HC, hbd⟩ := hrel
    have hBw : w.heap.size ≤ wr.heap.size := HW.out.size
    have c1 : (0 : Int) ≤ (start : Int) := by omega
    have c2 : (start : Int) ≤ (s.size : Int) := by omega
    have hAr := HA.out.below HW.out
    have r0 := hAr.r0
    have HAr := Lib.hid hAr
    have hfn := finNext F G (s.extract start s.size) p S wr.drew hAr.fin.drew1 hAr.good h1 hp (by rw [ByteArray.size_extract]; omega)
    rw [Lib.extract_to_end] at hfn
    cases gk with
    | zero =>
      have hi : Lib.index (s.data.toList.drop start) p.data.toList = -1 := by
        rcases index_spec (s.data.toList.drop start) p.data.toList with ⟨h, _⟩ | ⟨i, h, _⟩
        · exact h
        · have := count_hit (fun e => by rw [e] at hlenO; simp at hlenO; omega) h
          have := HC.out
          omega
      rw [hi] at hfn
      have HFn := Lib.hid hfn
      clear hfn hi hAr
      go_wp2_with fail
      go_region_with (go_at_call 59; refine HFn.out.mono ?_; rintro e w' ⟨n, rfl, rfl⟩)
      cases m with
      | false =>
        have hm2 := Lib.hid (hm rfl)
        clear hm
        go_wp2_with fail
        go_ret
        refine ⟨?_, belowDrewN HW.out _⟩
        rw [← hm2.out.2.2, Lib.replaceK]
        exact congrArg (fun x => Ending.returned (Value.string x)) (by cases s; rfl)
      | true =>
        have HBd : Hid (Lib.IsBuilder 90 5 w.heap.size w.heap.size (Lib.byteCells acc) (wr.drewN (1 + n))) := HB
        have HWd : Hid (Below w.heap.size w (wr.drewN (1 + n))) := hidG (belowDrewN HW.out _)
        go_wp2_with fail
        refine (bWriteString w.heap.size w.heap.size _ _ _ HBd.out (by rw [Lib.byteCells_length, ByteArray.size_extract]; omega) HWd.out.size).mono ?_
        rintro e w3 ⟨rfl, h3, hb3⟩
        rw [Lib.strCells_eq, Lib.extract_to_end, ← Lib.byteCells_append] at h3
        have hfin : acc ++ s.data.toList.drop start = Lib.replaceK p.data.toList v.data.toList K s.data.toList := HR.out
        rw [hfin] at h3
        have H3 := hidG (Or.inr h3 : Lib.IsBuilder 90 5 w.heap.size w.heap.size _ w3)
        have Hb3 := hidG (HWd.out.trans hb3)
        clear h3 hb3 hfin
        go_wp2_with fail
        refine (bString w.heap.size w.heap.size _ w3 H3.out Hb3.out.size).mono ?_
        rintro e w5 ⟨rfl, hb5⟩
        have Hb5 := hidG (Hb3.out.trans hb5)
        clear hb5
        go_wp2_with fail
        go_ret
        exact ⟨rfl, Hb5.out⟩
    | succ g =>
      obtain ⟨j, hj⟩ := Lib.index_of_count (s := s.data.toList.drop start) (old := p.data.toList) (by have := HC.out; omega)
      have hroom : j + p.size ≤ s.size - start := by
        have := Lib.index_room (s.data.toList.drop start) p.data.toList (by rw [hj]; omega)
        rw [hj, List.length_drop, hlenL, hlenO] at this
        omega
      have hsucc : (g + 1) * v.size = g * v.size + v.size := Nat.succ_mul _ _
      have c3 : (start : Int) ≤ (start : Int) + (j : Int) := by omega
      have c4 : (start : Int) + (j : Int) ≤ (s.size : Int) := by omega
      have hnext : Lib.byteCells acc ++ Lib.strCells (s.extract start (start + j)) ++ Lib.strCells v = Lib.byteCells (acc ++ (s.data.toList.drop start).take j ++ v.data.toList) := by
        rw [Lib.strCells_eq, Lib.strCells_eq, Lib.extract_data, Nat.add_sub_cancel_left, ← Lib.byteCells_append, ← Lib.byteCells_append]
      have hrep : (acc ++ (s.data.toList.drop start).take j ++ v.data.toList) ++ Lib.replaceK p.data.toList v.data.toList g (s.data.toList.drop (start + j + p.size)) = Lib.replaceK p.data.toList v.data.toList K s.data.toList := by
        rw [← HR.out, Lib.replaceK_hit _ _ g _ j hj, List.drop_drop, hlenO]
        simp only [List.append_assoc, Nat.add_assoc]
      have hcnt : g = Lib.count (s.data.toList.drop (start + j + p.size)) p.data.toList := by
        have := Lib.count_hit (s := s.data.toList.drop start) (sub := p.data.toList) (i := j) (fun e => by rw [e] at hlenO; simp at hlenO; omega) hj
        rw [List.drop_drop, hlenO] at this
        rw [show start + j + p.size = start + (j + p.size) by omega]
        have := HC.out
        omega
      have htl : ((s.data.toList.drop start).take j).length = j := by rw [List.length_take, List.length_drop, hlenL]; omega
      rw [hj] at hfn
      have HFn := Lib.hid hfn
      have Hn := hidG hnext
      have Hrep := hidG hrep
      have Hcnt := hidG hcnt
      have hjm : ((j : Int) == -1) = false := beq_eq_false_iff_ne.2 (by omega)
      clear hnext hrep hcnt HR HC hfn hAr
      go_wp2_with fail
      go_region_with (go_at_call 59; refine HFn.out.mono ?_; rintro e w' ⟨n, rfl, rfl⟩)
      have HBd : Hid (Lib.IsBuilder 90 5 w.heap.size w.heap.size (Lib.byteCells acc) (wr.drewN (1 + n))) := HB
      have HWd : Hid (Below w.heap.size w (wr.drewN (1 + n))) := hidG (belowDrewN HW.out _)
      have r1 : (wr.drewN (1 + n)).cell? ⟨R, 1, none⟩ = some (.string v) := HAr.out.r1
      have c5 : (j : Int) + (v.size : Int) ≤ 140737488355328 := by omega
      have c6 : (0 : Int) ≤ (j : Int) + (v.size : Int) := by omega
      have Hsum : Hid ((j : Int) + (v.size : Int) = ((j + v.size : Nat) : Int)) := Lib.hid (by omega)
      go_wp2_with fail
      rw [Hsum.out]
      refine (bGrowA w.heap.size w.heap.size _ _ _ HBd.out (byteCells_one _) (by rw [Lib.byteCells_length]; omega) HWd.out.size).mono ?_
      rintro e w2 ⟨rfl, h2, hb2⟩
      have H2 := hidG (Or.inr h2 : Lib.IsBuilder 90 5 w.heap.size w.heap.size _ w2)
      have Hb2 := hidG (HWd.out.trans hb2)
      clear h2 hb2
      go_wp2_with fail
      refine (bWriteString w.heap.size w.heap.size _ (s.extract start (start + j)) w2 H2.out (by rw [Lib.byteCells_length, ByteArray.size_extract]; omega) Hb2.out.size).mono ?_
      rintro e w3 ⟨rfl, h3, hb3⟩
      have H3 := hidG h3
      have Hb3 := hidG (Hb2.out.trans hb3)
      clear h3 hb3
      have r1' : w3.cell? ⟨R, 1, none⟩ = some (.string v) := (HA.out.below Hb3.out).r1
      go_wp2_with fail
      refine (bWriteString w.heap.size w.heap.size _ v w3 (Or.inr H3.out) (by rw [List.length_append, Lib.byteCells_length, Lib.strCells_length, ByteArray.size_extract]; omega) Hb3.out.size).mono ?_
      rintro e w4 ⟨rfl, h4, hb4⟩
      rw [Hn.out] at h4
      have H4 := hidG (Or.inr h4 : Lib.IsBuilder 90 5 w.heap.size w.heap.size _ w4)
      have Hb4 := hidG (Hb3.out.trans hb4)
      clear h4 hb4
      have hA4 := HA.out.below Hb4.out
      have q0 := hA4.r0
      have q1 := hA4.fin.c0
      clear hA4
      have c7 : (start : Int) + ((j : Int) + (p.size : Int)) ≤ (s.size : Int) := by omega
      go_wp2_with fail
      go_roundg g
      case measure => omega
      case rel => exact ⟨start + j + p.size, true, _, by go_num, rfl, (fun e => absurd e (by decide)), by omega, H4, Hb4, Hrep, Hcnt, by simp only [List.length_append, htl, ← Lib.size_eq]; omega⟩
end Go.Proofs.Ytnigbgablginnaa

/- SplitSeq: the iterator, the thin package's collecting loop. -/
import Derived.Test.YtblaldahhhokmaaDoorIter2
import Derived.Test.YtblaldahhhokmaaDoorSeqL
import Derived.RegionIn
set_option linter.unusedVariables false
namespace Go.Proofs.YtblaldahhhokmaaDoor
open Go.RowKit Go.Lib
attribute [local go_sem] Oper.semAt_some

theorem rowLe {w : World} {base base' : Nat} {e : TypeId} {size : Nat} {v : Value} {n : Nat} {xs : List Value} (h : w.ownsRow base e size v n xs) (hb : base' ≤ base) : w.ownsRow base' e size v n xs := by
  refine ⟨h.1, ?_⟩
  rcases h.2 with h' | ⟨g, cap, cur, e1, e2, e3⟩
  · exact .inl h'
  · exact .inr ⟨g, cap, cur, e1, Nat.le_trans hb e2, e3⟩
theorem rowBelow {w w' : World} {base : Nat} {e : TypeId} {size : Nat} {v : Value} {n : Nat} {xs : List Value} (h : w.ownsRow base e size v n xs) (hb : Below w.heap.size w w') : w'.ownsRow base e size v n xs := by
  refine ⟨h.1, ?_⟩
  rcases h.2 with h' | ⟨g, cap, cur, e1, e2, e3, e4⟩
  · exact .inl h'
  · exact .inr ⟨g, cap, cur, e1, e2, (hb.block g (Array.getElem?_eq_some_iff.1 e3).1).trans e3, e4⟩

/-- The blocks that the iterator only reads, and its own. -/
def Kseq (B : Nat) (b : Nat) : Prop := b = B ∨ b = B + 1 ∨ b = B + 2 ∨ b = 2 ∨ b = 3
theorem Tabs.same {w w' : World} (h : Tabs w) (h1 : w'.heap[2]? = w.heap[2]?) (h2 : w'.heap[3]? = w.heap[3]?) : Tabs w' :=
  ⟨fun c hc => (World.cell?_of_block (w := w) h1).trans (h.1 c hc), fun i hi => ⟨(World.cell?_of_block (w := w) h2).trans (h.2 i hi).1, (World.cell?_of_block (w := w) h2).trans (h.2 i hi).2⟩⟩

set_option maxRecDepth 100000 in
set_option maxHeartbeats 2000000 in
theorem seq_iter (n : Nat) (hn : 1 ≤ n) (B : Nat) (s sep : ByteArray) (sv : Nat) (w : World) (hs : s.size < 2147483648) (hp : sep.size < 2147483648) (h1 : 1 ≤ sep.size) (hsv : sv ≤ sep.size)
    (hb : Boxed w B 9 (.string s)) (hb1 : Boxed w (B + 1) 9 (.string sep)) (hb2 : Boxed w (B + 2) 3 (.int .i64 sv)) :
    SeqAll2 Fence.wide n Tryd.prog 84 #[.pointer (some ⟨B + 1, 0, none⟩), .pointer (some ⟨B, 0, none⟩), .pointer (some ⟨B + 2, 0, none⟩)] (fun x : ByteArray => #[Value.string x]) B (Kseq B) (seqS sep sv s) w := by
  intro l J W hW hJs hJd hJb hY h0
  have e0 : Boxed W B 9 (.string s) := (hW _ (.inl rfl)).trans hb
  have e1 : Boxed W (B + 1) 9 (.string sep) := (hW _ (.inr (.inl rfl))).trans hb1
  have e2 : Boxed W (B + 2) 3 (.int .i64 sv) := (hW _ (.inr (.inr (.inl rfl)))).trans hb2
  have z0 : (((sep.size : Nat) : Int) == 0) = false := beq_eq_false_iff_ne.2 (by omega)
  have c1 := e1.cell
  refine callsIn_of_wp Tryd.func84 rfl trivial ?_ rfl
  simp only [Tryd.ntmps84, List.size_toArray, List.length_cons, List.length_nil, Nat.reduceAdd, Nat.reduceSub, Array.replicate_succ, Array.replicate_zero, List.push_toArray, List.append_toArray, List.nil_append, List.cons_append]
  gi_wp2
  clear c1
  gi_loopw [7, 8] (fun _ _ wr => ∃ (x : ByteArray) (pre : List ByteArray), x.size ≤ s.size ∧ Boxed wr B 9 (.string x) ∧ pre ++ seqS sep sv x = seqS sep sv s ∧ J pre wr ∧ (∀ b, Kseq B b → b ≠ B → wr.heap[b]? = W.heap[b]?))
    (fun _ _ wr => match wr.cell? ⟨B, 0, none⟩ with | some (.string z) => z.size | _ => 0)
  case atStart => exact ⟨s, [], Nat.le_refl _, e0, rfl, h0, fun b _ _ => rfl⟩
  case round =>
    obtain ⟨x, pre, hx, hbx, hpre, hJ, hK⟩ := hrel
    have hcell := hbx.cell
    have hfr := hbx.frozen
    have r1 : Boxed wr (B + 1) 9 (.string sep) := (hK _ (.inr (.inl rfl)) (by omega)).trans e1
    have r2 : Boxed wr (B + 2) 3 (.int .i64 sv) := (hK _ (.inr (.inr (.inl rfl))) (by omega)).trans e2
    have c1 := r1.cell
    have c2 := r2.cell
    have hxs : x.size < 4294967281 := by omega
    have HP := Lib.hid hpre
    have HK := Lib.hid hK
    clear hpre hK
    rcases indexB_cases x sep with hm | ⟨i, hm, hr⟩
    · have hla := seqS_miss sep sv x hm
      obtain ⟨fn, tmps, assign, body, hy, hR⟩ := hY pre x wr hJ (by have := HP.out; rw [hla] at this; rw [← this]; simp)
      have hm' : index x.data.toList sep.data.toList = -1 := hm
      have HL := Lib.hid hla
      clear hla hm
      gi_wp2_with ((refine ⟨trivial, ?_⟩); refine (callsIn_wide.2 (gIndex x sep wr hxs)).mono ?_; rw [hm']; rintro e w' ⟨rfl, rfl⟩)
      refine hR.mono ?_
      rintro e W3 ⟨rfl, hJ3, hK3⟩
      gi_wp2
      go_end0
      have := HP.out
      rw [HL.out] at this
      exact ⟨⟨_, rfl⟩, this ▸ hJ3⟩
    · have hla := seqS_hit sep sv x i h1 hm
      have hxz : (x.extract (i + sep.size) x.size).size = x.size - (i + sep.size) := by rw [ByteArray.size_extract]; omega
      have hm' : index x.data.toList sep.data.toList = i := hm
      have HL := Lib.hid hla
      clear hla hm
      have q1 : (0 : Int) ≤ (i : Int) + sv := by omega
      have q2 : (i : Int) + sv ≤ x.size := by omega
      have q3 : (0 : Int) ≤ (i : Int) + sep.size := by omega
      have q4 : (i : Int) + sep.size ≤ x.size := by omega
      have hi0 : decide ((i : Int) < 0) = false := decide_eq_false (by omega)
      obtain ⟨fn, tmps, assign, body, hy, hR⟩ := hY pre (x.extract 0 (i + sv)) wr hJ (by have := HP.out; rw [HL.out] at this; rw [← this]; simp)
      gi_wp2_with ((refine ⟨trivial, ?_⟩); refine (callsIn_wide.2 (gIndex x sep wr hxs)).mono ?_; rw [hm']; rintro e w' ⟨rfl, rfl⟩)
      refine hR.mono ?_
      rintro e W3 ⟨rfl, hJ3, hK3⟩
      have g1 : Boxed W3 (B + 1) 9 (.string sep) := (hK3 _ (.inr (.inl rfl))).trans r1
      have g0 : Boxed W3 B 9 (.string x) := (hK3 _ (.inl rfl)).trans hbx
      have d0 := g0.cell
      have f0 := g0.frozen
      have d1 := g1.cell
      clear hcell hfr c1 c2
      gi_wp2
      go_roundw
      case rel => exact ⟨x.extract (i + sep.size) x.size, pre ++ [x.extract 0 (i + sv)], by omega, g0.set _, by rw [List.append_assoc]; have := HP.out; rw [HL.out] at this; exact this, hJs _ _ _ hJ3, fun b hb hne => (Below.heap_setCell _ ⟨B, 0, none⟩ _ b (by simpa using hne)).trans ((hK3 b hb).trans (HK.out b hb hne))⟩
      case measure => rw [hbx.cell, (g0.set _).cell]; show (x.extract (i + sep.size) x.size).size < x.size; omega

/-! ### the empty separator -/
set_option maxRecDepth 100000 in
set_option maxHeartbeats 2000000 in
theorem seq_iterE (n : Nat) (hn : 1 ≤ n) (B : Nat) (s sep : ByteArray) (sv : Nat) (w : World) (hs : s.size < 2147483648) (h1 : sep.size = 0) (hT : Tabs w) (hkl : ∀ b, Kseq B b → ∃ o, w.heap[b]? = some o)
    (hb : Boxed w B 9 (.string s)) (hb1 : Boxed w (B + 1) 9 (.string sep)) (hb2 : Boxed w (B + 2) 3 (.int .i64 sv)) :
    SeqAll2 Fence.wide n Tryd.prog 84 #[.pointer (some ⟨B + 1, 0, none⟩), .pointer (some ⟨B, 0, none⟩), .pointer (some ⟨B + 2, 0, none⟩)] (fun x : ByteArray => #[Value.string x]) B (Kseq B) (seqE s 0) w := by
  intro l J W hW hJs hJd hJb hY h0
  have e0 : Boxed W B 9 (.string s) := (hW _ (.inl rfl)).trans hb
  have e1 : Boxed W (B + 1) 9 (.string sep) := (hW _ (.inr (.inl rfl))).trans hb1
  have hTW : Tabs W := hT.same (hW _ (.inr (.inr (.inr (.inl rfl))))) (hW _ (.inr (.inr (.inr (.inr rfl)))))
  have HT := Lib.hid hTW
  have hne1 : 2 ≠ B := fun e => by
    have h1 := hT.1 0 (by decide)
    have h2 := hb.cell
    rw [e, h2] at h1
    cases h1
  have hne2 : 3 ≠ B := fun e => by
    have h1 := (hT.2 0 (by decide)).1
    have h2 := hb.cell
    rw [e] at h1
    have h3 : w.cell? ⟨B, 0, none⟩ = _ := h1
    rw [h2] at h3
    cases h3
  have HNE := Lib.hid (And.intro hne1 hne2)
  have HKL : Hid (∀ b, Kseq B b → ∃ o, W.heap[b]? = some o) := Lib.hid (fun b hb => by obtain ⟨o, ho⟩ := hkl b hb; exact ⟨o, (hW b hb).trans ho⟩)
  clear hTW hT hne1 hne2 hkl
  have z0 : (((sep.size : Nat) : Int) == 0) = true := by rw [beq_iff_eq]; omega
  have c1 := e1.cell
  refine callsIn_of_wp Tryd.func84 rfl trivial ?_ rfl
  simp only [Tryd.ntmps84, List.size_toArray, List.length_cons, List.length_nil, Nat.reduceAdd, Nat.reduceSub, Array.replicate_succ, Array.replicate_zero, List.push_toArray, List.append_toArray, List.nil_append, List.cons_append]
  gi_wp2
  clear c1
  gi_loopw [5, 6] (fun _ _ wr => ∃ (a : Nat) (pre : List ByteArray), a ≤ s.size ∧ Boxed wr B 9 (.string (s.extract a s.size)) ∧ pre ++ seqE s a = seqE s 0 ∧ J pre wr ∧ (∀ b, Kseq B b → b ≠ B → wr.heap[b]? = W.heap[b]?))
    (fun _ _ wr => match wr.cell? ⟨B, 0, none⟩ with | some (.string z) => z.size | _ => 0)
  case atStart => exact ⟨0, [], Nat.zero_le _, by rw [show s.extract 0 s.size = s from ByteArray.extract_zero_size]; exact e0, rfl, h0, fun b _ _ => rfl⟩
  case round =>
    obtain ⟨a, pre, ha, hbx, hpre, hJ, hK⟩ := hrel
    have hz : (s.extract a s.size).size = s.size - a := by rw [ByteArray.size_extract]; omega
    obtain ⟨x, hxd⟩ : ∃ x, x = s.extract a s.size := ⟨_, rfl⟩
    rw [← hxd] at hbx hz
    have hcell := hbx.cell
    have hfr := hbx.frozen
    have HP := Lib.hid hpre
    have HK := Lib.hid hK
    have HX := Lib.hid hxd
    clear hpre hK hxd
    by_cases hend : s.size ≤ a
    · have hxe : x = ByteArray.empty := emptyS x (by omega)
      subst hxe
      gi_wp2
      refine bodyPost_ret (results_none rfl _ _ _) rfl ?_
      have := HP.out
      rw [seqE_end s a hend, List.append_nil] at this
      exact ⟨⟨_, rfl⟩, this ▸ hJ⟩
    · have hlt : a < s.size := by omega
      have hx0 : (0 : Int) < x.size := by omega
      have hw1 := decode_width_pos s a hlt
      have hwe := decode_end s a hlt
      have hst := seqE_step s a hlt
      obtain ⟨K, hKd⟩ : ∃ K, K = (Utf8.decode s a).2 := ⟨_, rfl⟩
      have hcD := dDec (s.extract a s.size) wr (HT.out.same (HK.out _ (.inr (.inr (.inr (.inl rfl)))) HNE.out.1) (HK.out _ (.inr (.inr (.inr (.inr rfl)))) HNE.out.2))
      rw [decode_suffix s a hlt, ← HX.out, ← hKd] at hcD
      rw [← hKd] at hw1 hwe hst
      have hKx : K ≤ x.size := by omega
      have HX0 : Hid (x.extract 0 K = s.extract a (a + K)) := by show _ = _; rw [HX.out]; exact x_to s a K hwe
      have HX1 : Hid (x.extract K x.size = s.extract (a + K) s.size) := by show _ = _; rw [HX.out]; exact x_from s a K hwe
      have HS := Lib.hid hst
      have HD := Lib.hid hcD
      clear hst hcD hKd
      have HLT : Hid (∀ b, Kseq B b → b < wr.heap.size) := Lib.hid (fun b hb => by
        by_cases e : b = B
        · subst e; exact hbx.lt
        · obtain ⟨o, ho⟩ := HKL.out b hb
          exact (Array.getElem?_eq_some_iff.1 ((HK.out b hb e).trans ho)).1)
      have HBX := Lib.hid hbx
      clear hbx
      gi_wp2_with ((refine ⟨trivial, ?_⟩); refine (callsIn_wide.2 HD.out).mono ?_; rintro e w2 ⟨rfl, hB2⟩; have HK2 : Hid (∀ b, Kseq B b → w2.heap[b]? = wr.heap[b]?) := Lib.hid (fun b hb => hB2.block b (HLT.out b hb)); have HBX2 : Hid (Boxed w2 B 9 (.string x)) := Lib.hid ((HK2.out _ (.inl rfl)).trans HBX.out); have hc2 := HBX2.out.cell; have hf2 := HBX2.out.frozen; have HJ2 := Lib.hid (hJb _ _ _ hJ hB2); clear hB2; obtain ⟨fn, tmps, assign, body, hy, hR⟩ := hY pre (x.extract 0 K) w2 HJ2.out (by have := HP.out; rw [HS.out] at this; rw [← this]; simp))
      refine hR.mono ?_
      rintro e W3 ⟨rfl, hJ3, hK3⟩
      have g0 : Boxed W3 B 9 (.string x) := (hK3 _ (.inl rfl)).trans HBX2.out
      have d0 := g0.cell
      have f0 := g0.frozen
      clear hcell hfr hc2 hf2
      gi_wp2
      go_roundw
      case rel => exact ⟨a + K, pre ++ [x.extract 0 K], by omega, (show x.extract K (s.size - a) = s.extract (a + K) s.size by rw [← hz]; exact HX1.out) ▸ g0.set _, by rw [List.append_assoc]; have := HP.out; rw [HS.out, ← HX0.out] at this; exact this, hJs _ _ _ hJ3, fun b hb hne => (Below.heap_setCell _ ⟨B, 0, none⟩ _ b (by simpa using hne)).trans ((hK3 b hb).trans ((HK2.out b hb).trans (HK.out b hb hne)))⟩
      case measure => rw [HBX.out.cell, (g0.set _).cell]; show (x.extract K (s.size - a)).size < x.size; rw [ByteArray.size_extract]; omega
end Go.Proofs.YtblaldahhhokmaaDoor

/- The walk of FnSwapped. -/
import Derived.Test.YtnigbgablginnaaRepD
import Derived.Laws.AppendOwnNone
import Derived.OpenShut
set_option linter.unusedVariables false
namespace Go.Proofs.Ytnigbgablginnaa
open Go.RowKit Go.Lib

/-- Bytes to bytes. -/
theorem rep_kind_bytes {w : World} {R : Nat} {qs : List BB} {L : Nat} (h : RepOk w R qs L) (ho : oldOne qs) (hn : newOne qs) (s : ByteArray) (hs : s.size ≤ 140737488355328) :
    Calls Try.prog 43 #[at0 R, .string s] w (Rpd (repl (qs.map tb) s.data.toList true) w) := by
  obtain ⟨v, base, hc, hb, _⟩ := h
  cases hb with
  | single R F G p v S hq hp h hb => rw [hq] at ho; have := ho (p, v) (by simp); simp at this; omega
  | gen g m N T hs ho' h => exact absurd ho ho'
  | strs B Lb hs ho' hn' h hb => exact absurd hn hn'
  | bytes B Rf hs' ho' hn' hT hR hb =>
    have hbo : bytesOnly (qs.map tb) := fun p hp => by
      obtain ⟨q, hq, rfl⟩ := List.mem_map.1 hp
      have := ho q hq
      show q.1.data.toList.length = 1
      rw [← Lib.size_eq]; exact this
    have e : repl (qs.map tb) s.data.toList true = s.data.toList.map (fun c => UInt8.ofNat (Rf c.toNat)) := by
      rw [repl_bytes hbo]
      rw [← List.flatMap_singleton' (s.data.toList.map _), List.flatMap_map]
      congr 1
      funext c
      exact (hR c).1
    rw [e]
    exact rep_bytes R B _ s w hc (byteRep B Rf s w hT (fun c => (hR c).2) hs)

def swp (a b c : UInt8) : UInt8 := if c = a then b else if c = b then a else c
theorem sw_len (s : ByteArray) (a b : UInt8) (k : Nat) (h : k < s.size) : ((s.data.toList.take (k + 1)).map (swp a b)).length = ((s.data.toList.take k).map (swp a b)).length + 1 := by
  have := Lib.size_eq s
  rw [List.length_map, List.length_map, List.length_take, List.length_take]; omega
theorem sw_cells (s : ByteArray) (a b : UInt8) (k : Nat) (h : k < s.size) : Lib.byteCells ((s.data.toList.take (k + 1)).map (swp a b)) = Lib.byteCells ((s.data.toList.take k).map (swp a b)) ++ [.int .u8 (swp a b s[k]).toNat] := by
  have h1 : s.data.toList[k]? = some s[k] := byte_at s k h
  rw [List.take_add_one, h1, List.map_append, Lib.byteCells_append]
  rfl
theorem swp_swp {a b : UInt8} (h : a ≠ b) (c : UInt8) : swp a b (swp a b c) = c := by
  unfold swp
  by_cases h1 : c = a
  · rw [if_pos h1, if_neg (fun e => h e.symm), if_pos rfl, h1]
  · rw [if_neg h1]
    by_cases h2 : c = b
    · rw [if_pos h2, if_pos rfl, h2]
    · rw [if_neg h2, if_neg h1, if_neg h2]
theorem swp_to (a b c : UInt8) : byteTo ([((⟨#[a]⟩ : ByteArray), (⟨#[b]⟩ : ByteArray)), (⟨#[b]⟩, ⟨#[a]⟩)].map tb) c = [swp a b c] := by
  show (match [([a], [b]), ([b], [a])].find? (fun p => p.1 == [c]) with | some p => p.2 | none => [c]) = _
  unfold swp
  by_cases h1 : c = a
  · subst h1; simp
  · rw [if_neg h1]
    have e1 : (([a] : Bs) == [c]) = false := by rw [beq_eq_false_iff_ne]; exact fun e => h1 (List.cons.inj e).1.symm
    by_cases h2 : c = b
    · subst h2; simp [List.find?, e1]
    · have e2 : (([b] : Bs) == [c]) = false := by rw [beq_eq_false_iff_ne]; exact fun e => h2 (List.cons.inj e).1.symm
      simp [List.find?, e1, e2, h2]
theorem swap_is (a b : UInt8) (v : Value) (w : World) (hv : StrsAt w v [⟨#[a]⟩, ⟨#[b]⟩, ⟨#[b]⟩, ⟨#[a]⟩]) (s : ByteArray) (hs : s.size ≤ 2147483647) :
    Calls Try.prog 23 #[v, .string s, .string ⟨(s.data.toList.map (swp a b)).toArray⟩] w (RpIsR true w) := by
  have hq : ∀ q ∈ [((⟨#[a]⟩ : ByteArray), (⟨#[b]⟩ : ByteArray)), (⟨#[b]⟩, ⟨#[a]⟩)], q.1.size = 1 ∧ q.2.size = 1 := fun q hq => by
    rcases List.mem_cons.1 hq with rfl | hq
    · exact ⟨rfl, rfl⟩
    · rcases List.mem_cons.1 hq with rfl | hq
      · exact ⟨rfl, rfl⟩
      · cases hq
  have hbo : bytesOnly ([((⟨#[a]⟩ : ByteArray), (⟨#[b]⟩ : ByteArray)), (⟨#[b]⟩, ⟨#[a]⟩)].map tb) := fun p hp => by
    obtain ⟨q, hq', rfl⟩ := List.mem_map.1 hp
    show q.1.data.toList.length = 1
    rw [← Lib.size_eq]; exact (hq q hq').1
  have e : repl ([((⟨#[a]⟩ : ByteArray), (⟨#[b]⟩ : ByteArray)), (⟨#[b]⟩, ⟨#[a]⟩)].map tb) s.data.toList true = s.data.toList.map (swp a b) := by
    rw [repl_bytes hbo, ← List.flatMap_singleton' (s.data.toList.map _), List.flatMap_map]
    congr 1
    funext c
    exact swp_to a b c
  have hI := impRep _ [((⟨#[a]⟩ : ByteArray), (⟨#[b]⟩ : ByteArray)), (⟨#[b]⟩, ⟨#[a]⟩)] v _ s w hv ⟨rfl, fun k q hk => by
    match k, hk with
    | 0, hk => cases hk; exact ⟨rfl, rfl⟩
    | 1, hk => cases hk; exact ⟨rfl, rfl⟩⟩ (by simp) (fun x hx => by
      have : x.size = 1 := by
        simp only [List.mem_cons, List.not_mem_nil, or_false] at hx
        rcases hx with rfl | rfl | rfl | rfl <;> rfl
      omega) (fun w1 R hR => rep_kind_bytes hR (fun q h => (hq q h).1) (fun q h => (hq q h).2) s (by omega))
  have := rpIs v s ⟨(s.data.toList.map (swp a b)).toArray⟩ _ w hI
  rw [e] at this
  simpa using this
theorem swap_back (a b : UInt8) (hab : a ≠ b) (v : Value) (w : World) (hv : StrsAt w v [⟨#[a]⟩, ⟨#[b]⟩, ⟨#[b]⟩, ⟨#[a]⟩]) (s : ByteArray) (hs : s.size ≤ 2147483647) :
    Calls Try.prog 23 #[v, .string ⟨(s.data.toList.map (swp a b)).toArray⟩, .string s] w (RpIsR true w) := by
  have h := swap_is a b v w hv ⟨(s.data.toList.map (swp a b)).toArray⟩ (by show (List.toArray _).size ≤ _; have := Lib.size_eq s; simp; omega)
  have e : (⟨((⟨(s.data.toList.map (swp a b)).toArray⟩ : ByteArray).data.toList.map (swp a b)).toArray⟩ : ByteArray) = s := by
    show (⟨((s.data.toList.map (swp a b)).map (swp a b)).toArray⟩ : ByteArray) = s
    rw [List.map_map]
    have : (swp a b ∘ swp a b) = id := by funext c; exact swp_swp hab c
    rw [this, List.map_id]
  rw [e] at h
  exact h
theorem u8InfoS : (Try.prog.info? 5).map (fun i => (i.zero, i.size, i.bytes)) = some (some (.int .u8 0), 1, 1) := by kernel_rfl
theorem conv_own {w : World} {base : Nat} {v : Value} {out : Bs} (h : w.ownsRow base 5 1 v out.length (Lib.byteCells out)) : (convert 41 9 v).run Try.prog w = .ok (.string ⟨out.toArray⟩) w := by
  rcases h.2 with ⟨rfl, h0⟩ | ⟨g, cap, cur, rfl, hg, hh, hc, _⟩
  · obtain rfl : out = [] := List.eq_nil_of_length_eq_zero h0
    simp [convert, run_underlying Try.underlying41, run_underlying Try.underlying9, run_underlying Try.underlying5, Conv.bytesToString]
    rfl
  · have hby : Lib.Bytes w g 0 ⟨out.toArray⟩ := fun i hi => by
      have hi' : i < out.length := hi
      have := h.cells (g := g) rfl i (.int .u8 (out[i].toNat : Int)) (by rw [Lib.byteCells, List.getElem?_map, List.getElem?_eq_getElem hi']; rfl)
      rw [Addr.add_lit] at this
      rw [Nat.zero_add]
      rw [Nat.zero_add] at this
      rw [this]
      rfl
    exact Lib.run_convert_whole (P := Try.prog) w 41 5 9 Try.underlying41 Try.underlying5 Try.underlying9 g 0 ⟨out.toArray⟩ hby cap
set_option maxRecDepth 100000 in
set_option maxHeartbeats 4000000 in
theorem walkSwap (a b : UInt8) (s : ByteArray) (w : World) (hs : s.size ≤ maxLen) :
    Calls Try.prog 17 #[.int .u8 a.toNat, .int .u8 b.toNat, .string s] w fun e w' => e = .returned (.bool true) ∧ Below w.heap.size w w' := by
  unfold maxLen at hs
  by_cases hbig : 2147483647 < s.size
  · go_enter Try.func17, Try.ntmps17
    go_wp2
    go_ret
    exact ⟨rfl, Below.refl _ _⟩
  · have hcv : ∀ (W : World) (B : Nat) (x : UInt8), W.cell? ⟨B, 0, none⟩ = some (.int .u8 x.toNat) → (convert 41 9 (.slice (some ⟨B, 0, none⟩) 1 1)).run Try.prog W = .ok (.string ⟨#[x]⟩) W := fun W B x h => by
      rw [run_convert_bytes_arg _ 41 5 Try.underlying41 Try.underlying5 B 0 1 1 [(x.toNat : Int)] rfl (fun i hi => by
        obtain rfl : i = 0 := by omega
        rw [h]; rfl) 9 Try.underlying9]
      have : UInt8.ofNat ((x.toNat : Int)).toNat = x := by rw [Int.toNat_natCast]; exact UInt8.ofNat_toNat
      show Result.ok (Value.string ⟨#[UInt8.ofNat ((x.toNat : Int)).toNat]⟩) _ = _
      rw [this]
    have q1 : ∀ (W : World) (x : UInt8), (convert 41 9 (.slice (some ⟨W.heap.size, 0, none⟩) 1 1)).run Try.prog ((W.alloc (.cells #[.int .u8 x.toNat] 5)).drew) = .ok (.string ⟨#[x]⟩) ((W.alloc (.cells #[.int .u8 x.toNat] 5)).drew) := fun W x => hcv _ _ x ((cell_of_row (W.alloc (.cells #[.int .u8 x.toNat] 5)) _ 0 _ _ _ (heap_alloc_new W _)))
    have q2 : ∀ (W : World) (x y : UInt8), (convert 41 9 (.slice (some ⟨W.heap.size, 0, none⟩) 1 1)).run Try.prog (((W.alloc (.cells #[.int .u8 x.toNat] 5)).alloc (.cells #[.int .u8 y.toNat] 5)).drew) = .ok (.string ⟨#[x]⟩) (((W.alloc (.cells #[.int .u8 x.toNat] 5)).alloc (.cells #[.int .u8 y.toNat] 5)).drew) := fun W x y => hcv _ _ x (by
      have h1 := heap_alloc_new W (.cells #[.int .u8 x.toNat] 5)
      have h2 := ((Below.refl _ (W.alloc (.cells #[.int .u8 x.toNat] 5))).alloc (Nat.le_refl _) (.cells #[.int .u8 y.toNat] 5)).block W.heap.size (by simp)
      exact cell_of_row ((W.alloc (.cells #[.int .u8 x.toNat] 5)).alloc (.cells #[.int .u8 y.toNat] 5)) _ 0 _ _ _ (h2.trans h1))
    have q3 : ∀ (W : World) (x y : UInt8), (convert 41 9 (.slice (some ⟨W.heap.size + 1, 0, none⟩) 1 1)).run Try.prog (((W.alloc (.cells #[.int .u8 x.toNat] 5)).alloc (.cells #[.int .u8 y.toNat] 5)).drew) = .ok (.string ⟨#[y]⟩) (((W.alloc (.cells #[.int .u8 x.toNat] 5)).alloc (.cells #[.int .u8 y.toNat] 5)).drew) := fun W x y => hcv _ _ y (by
      have h1 := heap_alloc_new (W.alloc (.cells #[.int .u8 x.toNat] 5)) (.cells #[.int .u8 y.toNat] 5)
      rw [show (W.alloc (.cells #[.int .u8 x.toNat] 5)).heap.size = W.heap.size + 1 by simp] at h1
      exact cell_of_row ((W.alloc (.cells #[.int .u8 x.toNat] 5)).alloc (.cells #[.int .u8 y.toNat] 5)) _ 0 _ _ _ h1)
    go_enter Try.func17, Try.ntmps17
    go_wp2_with fail
    go_region
    all_goals
      generalize hW : World.drew _ = W0
      have HB0 : Hid (Below w.heap.size w W0) := Lib.hid (by rw [← hW]; exact (((Below.refl _ w).alloc (Nat.le_refl _) _).alloc (by simp) _).drew)
      clear hW q1 q2 q3 hcv
      by_cases hab : a = b
      · subst hab
        have he : (((a.toNat : Nat) : Int) == ((a.toNat : Nat) : Int)) = true := by simp
        go_wp2_with fail
        go_ret
        exact ⟨rfl, HB0.out.alloc HB0.out.size _⟩
      · have he : (((a.toNat : Nat) : Int) == ((b.toNat : Nat) : Int)) = false := by
          rw [beq_eq_false_iff_ne]; exact fun e => hab (UInt8.toNat_inj.1 (by omega))
        go_wp2_with fail
        have HS0 : Hid (StrsAt (W0.alloc (.cells #[.string ⟨#[a]⟩, .string ⟨#[b]⟩, .string ⟨#[b]⟩, .string ⟨#[a]⟩] 9)) (.slice (some ⟨W0.heap.size, 0, none⟩) 4 4) [⟨#[a]⟩, ⟨#[b]⟩, ⟨#[b]⟩, ⟨#[a]⟩]) := Lib.hid ⟨_, _, rfl, by simp, fun _ => ⟨_, _, rfl, by simp, fun j u hu => by
          rw [cell_of_row _ _ _ _ _ _ (heap_alloc_new W0 _)]
          match j, hu with
          | 0, hu => cases hu; rfl
          | 1, hu => cases hu; rfl
          | 2, hu => cases hu; rfl
          | 3, hu => cases hu; rfl⟩⟩
        have HB1 : Hid (Below w.heap.size w (W0.alloc (.cells #[.string ⟨#[a]⟩, .string ⟨#[b]⟩, .string ⟨#[b]⟩, .string ⟨#[a]⟩] 9))) := Lib.hid (HB0.out.alloc HB0.out.size _)
        generalize W0.alloc (.cells #[.string ⟨#[a]⟩, .string ⟨#[b]⟩, .string ⟨#[b]⟩, .string ⟨#[a]⟩] 9) = W1 at HS0 HB1 ⊢
        generalize (Value.slice (some ⟨W0.heap.size, 0, none⟩) 4 4) = pv at HS0 ⊢
        clear HB0
        obtain ⟨i0, hi, hz0, hz1, hz2⟩ := info_parts u8InfoS
        go_loopw [10, 32] (fun bv iv wr => ∃ k : Nat, k ≤ s.size ∧ iv = .int .i64 k ∧ Hid (wr.ownsRow W1.heap.size 5 1 bv ((s.data.toList.take k).map (swp a b)).length (Lib.byteCells ((s.data.toList.take k).map (swp a b)))) ∧ Hid (Below W1.heap.size W1 wr)) (fun _ iv _ => s.size - (RowKit.intOf iv).toNat)
        case atStart => exact ⟨0, Nat.zero_le _, rfl, Lib.hid (World.ownsRow_nil _ _ _ _), Lib.hid (Below.refl _ _)⟩
        case round =>
          obtain ⟨k, hk, rfl, HR, HB⟩ := hrel
          by_cases hlt : k < s.size
          · have hlen : ((s.data.toList.take k).map (swp a b)).length = k := by rw [List.length_map, List.length_take]; have := Lib.size_eq s; omega
            by_cases h1 : s[k] = a
            · have hd1 : (((s[k].toNat : Nat) : Int) == ((a.toNat : Nat) : Int)) = true := by rw [h1]; simp
              have HX : Hid (swp a b s[k] = b) := Lib.hid (by unfold swp; rw [if_pos h1])
              clear h1
              go_wp2_with (at_builtin; refine wpList_append_own _ rfl _ _ 41 rfl W1.heap.size 5 i0 (.int .u8 0) 1 1 Try.underlying41 hi hz0 hz1 hz2 rfl (by decide) _ _ _ rfl (HR.out.alloc _) ⟨wr.heap.size, 0, none⟩ 1 1 [.int .u8 (b).toNat] rfl rfl (cell_new_at _ _ rfl _ _) (by simp [Value.oneCell']) (by unfold maxLen; omega) (by omega) (by have := HB.out.size; simp; omega) ?_; intro v' w2 hown' hgrow _; have HR2 := Lib.hid hown'; have HG2 := Lib.hid hgrow; clear hown' hgrow)
              go_roundw
              case rel =>
                refine ⟨k + 1, by omega, by go_num, Lib.hid ?_, Lib.hid ?_⟩
                · have hr := HR2.out
                  rw [sw_len s a b k hlt, sw_cells s a b k hlt, HX.out]
                  exact hr
                · exact (HB.out.alloc HB.out.size _).grown HG2.out (by have := HB.out.size; simp; omega) (fun j ej => (HR.out.lt j ej).1)
              case measure => simp [RowKit.intOf]; omega
            · have hd1 : (((s[k].toNat : Nat) : Int) == ((a.toNat : Nat) : Int)) = false := by
                rw [beq_eq_false_iff_ne]; exact fun e => h1 (UInt8.toNat_inj.1 (by omega))
              by_cases h2 : s[k] = b
              · have hd2 : (((s[k].toNat : Nat) : Int) == ((b.toNat : Nat) : Int)) = true := by rw [h2]; simp
                have HX : Hid (swp a b s[k] = a) := Lib.hid (by unfold swp; rw [if_neg h1, if_pos h2])
                clear h1 h2
                go_wp2_with (at_builtin; refine wpList_append_own _ rfl _ _ 41 rfl W1.heap.size 5 i0 (.int .u8 0) 1 1 Try.underlying41 hi hz0 hz1 hz2 rfl (by decide) _ _ _ rfl (HR.out.alloc _) ⟨wr.heap.size, 0, none⟩ 1 1 [.int .u8 (a).toNat] rfl rfl (cell_new_at _ _ rfl _ _) (by simp [Value.oneCell']) (by unfold maxLen; omega) (by omega) (by have := HB.out.size; simp; omega) ?_; intro v' w2 hown' hgrow _; have HR2 := Lib.hid hown'; have HG2 := Lib.hid hgrow; clear hown' hgrow)
                go_roundw
                case rel =>
                  refine ⟨k + 1, by omega, by go_num, Lib.hid ?_, Lib.hid ?_⟩
                  · have hr := HR2.out
                    rw [sw_len s a b k hlt, sw_cells s a b k hlt, HX.out]
                    exact hr
                  · exact (HB.out.alloc HB.out.size _).grown HG2.out (by have := HB.out.size; simp; omega) (fun j ej => (HR.out.lt j ej).1)
                case measure => simp [RowKit.intOf]; omega
              · have hd2 : (((s[k].toNat : Nat) : Int) == ((b.toNat : Nat) : Int)) = false := by
                  rw [beq_eq_false_iff_ne]; exact fun e => h2 (UInt8.toNat_inj.1 (by omega))
                have HX : Hid (swp a b s[k] = s[k]) := Lib.hid (by unfold swp; rw [if_neg h1, if_neg h2])
                clear h1 h2
                go_wp2_with (at_builtin; refine wpList_append_own _ rfl _ _ 41 rfl W1.heap.size 5 i0 (.int .u8 0) 1 1 Try.underlying41 hi hz0 hz1 hz2 rfl (by decide) _ _ _ rfl (HR.out.alloc _) ⟨wr.heap.size, 0, none⟩ 1 1 [.int .u8 (s[k]).toNat] rfl rfl (cell_new_at _ _ rfl _ _) (by simp [Value.oneCell']) (by unfold maxLen; omega) (by omega) (by have := HB.out.size; simp; omega) ?_; intro v' w2 hown' hgrow _; have HR2 := Lib.hid hown'; have HG2 := Lib.hid hgrow; clear hown' hgrow)
                go_roundw
                case rel =>
                  refine ⟨k + 1, by omega, by go_num, Lib.hid ?_, Lib.hid ?_⟩
                  · have hr := HR2.out
                    rw [sw_len s a b k hlt, sw_cells s a b k hlt, HX.out]
                    exact hr
                  · exact (HB.out.alloc HB.out.size _).grown HG2.out (by have := HB.out.size; simp; omega) (fun j ej => (HR.out.lt j ej).1)
                case measure => simp [RowKit.intOf]; omega
          · have hge : ¬ ((k : Int) < (s.size : Int)) := by omega
            have hR := HR.out
            rw [List.take_of_length_le (by have := Lib.size_eq s; omega)] at hR
            have hc1 := conv_own hR
            have HR1 := Lib.hid hR
            have HI1 := Lib.hid (swap_is a b pv wr (HS0.out.below HB.out) s (by omega))
            clear hR HR
            go_wp2_with (first | (go_at_call 23; (with_reducible refine HI1.out.mono ?_); rintro e w1 ⟨rfl, hB⟩; have hc2 := conv_own (ownsRow_bel HR1.out hB); have HI2 := Lib.hid (swap_back a b hab pv w1 ((HS0.out.below HB.out).below hB) s (by omega)); have HB2 := Lib.hid hB; clear hB hc1 HI1) | (go_at_call 23; (with_reducible refine HI2.out.mono ?_); rintro e w2 ⟨rfl, hB⟩; have HB3 := Lib.hid hB; clear hB hc2 HI2))
            go_ret
            exact ⟨rfl, HB1.out.trans ((HB.out.trans ((HB2.out.trans (HB3.out.mono HB2.out.size)).mono HB.out.size)).mono HB1.out.size)⟩
theorem walk_FnSwapped (a b : Int) (s : ByteArray) (w : World) (ha : (Lit.int .u8 a).wf = true) (hb : (Lit.int .u8 b).wf = true) (hs : s.size ≤ maxLen) :
    Calls Try.prog 17 #[.int .u8 a, .int .u8 b, .string s] w fun e w' => e = .returned (.bool true) ∧ Below w.heap.size w w' := by
  obtain ⟨h0, h1⟩ := bounds_u8 ha
  obtain ⟨h2, h3⟩ := bounds_u8 hb
  have e1 : ((UInt8.ofNat a.toNat).toNat : Int) = a := by rw [UInt8.toNat_ofNat', Nat.mod_eq_of_lt (by omega)]; omega
  have e2 : ((UInt8.ofNat b.toNat).toNat : Int) = b := by rw [UInt8.toNat_ofNat', Nat.mod_eq_of_lt (by omega)]; omega
  have := walkSwap (UInt8.ofNat a.toNat) (UInt8.ofNat b.toNat) s w hs
  rw [e1, e2] at this
  exact this
end Go.Proofs.Ytnigbgablginnaa

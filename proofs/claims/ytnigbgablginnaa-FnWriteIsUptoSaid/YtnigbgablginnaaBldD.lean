/- What the four kinds of replacer are in memory. -/
import Derived.Test.YtnigbgablginnaaSg
import Derived.Test.YtnigbgablginnaaLkW
import Derived.Test.YtnigbgablginnaaGenL
import Derived.Test.YtnigbgablginnaaLkZ
import Derived.Lib.SlBytesRow
set_option linter.unusedVariables false
namespace Go.Proofs.Ytnigbgablginnaa
open Go.RowKit Go.Lib

def oldOne (qs : List BB) : Prop := ∀ q ∈ qs, q.1.size = 1
def newOne (qs : List BB) : Prop := ∀ q ∈ qs, q.2.size = 1
def isSingle (qs : List BB) : Prop := ∃ p v : ByteArray, qs = [(p, v)] ∧ 1 < p.size
/-- The kind of replacer that pairs get. -/
noncomputable def kindOf (qs : List BB) : Nat := open Classical in if isSingle qs then 0 else if ¬ oldOne qs then 1 else if newOne qs then 2 else 3

/-- A table of bytes in block B. -/
structure TabAt (w : World) (B : Nat) (R : Nat → Nat) : Prop where
  c : ∀ i, i < 256 → w.cell? ⟨B, i, none⟩ = some (.int .u8 (R i : Nat))
  nf : ∀ o, w.frozen? ⟨B, o, none⟩ = false
theorem TabAt.block {w w' : World} {B : Nat} {R : Nat → Nat} (h : TabAt w B R) (e : w'.heap[B]? = w.heap[B]?) : TabAt w' B R :=
  ⟨fun i hi => (World.cell?_of_block (w := w) e).trans (h.c i hi), fun o => (World.frozen?_of_block (w := w) e).trans (h.nf o)⟩
theorem TabAt.lt {w : World} {B : Nat} {R : Nat → Nat} (h : TabAt w B R) : B < w.heap.size := World.block_lt_of_cell? _ _ (h.c 0 (by decide))
theorem TabAt.set {w : World} {B : Nat} {R : Nat → Nat} (h : TabAt w B R) (k x : Nat) (hk : k < 256) : TabAt (w.setCell ⟨B, k, none⟩ (.int .u8 x)) B (fun i => if i = k then x else R i) := by
  refine ⟨fun i hi => ?_, fun o => by rw [World.frozen?_setCell]; exact h.nf o⟩
  by_cases e : i = k
  · subst e; rw [if_pos rfl]; exact World.cell?_setCell_same _ _ _ (h.c i hi)
  · rw [if_neg e, World.cell?_setCell_other _ _ _ _ (fun e2 => e (congrArg Addr.off e2).symm)]; exact h.c i hi
theorem TabAt.congr {w : World} {B : Nat} {R R' : Nat → Nat} (h : TabAt w B R) (e : ∀ i, i < 256 → R i = R' i) : TabAt w B R' := ⟨fun i hi => e i hi ▸ h.c i hi, h.nf⟩

theorem ownsRow_bel {B : Nat} {e : TypeId} {k : Nat} {v : Value} {n : Nat} {xs : List Value} {w w' : World} (h : w.ownsRow B e k v n xs) (hb : Below w.heap.size w w') : w'.ownsRow B e k v n xs :=
  h.kept (row := none) ⟨hb.os, hb.tape, hb.output, hb.size, fun k hk _ => hb.block k hk⟩ (Classical.em _)
/-- What bytes become: the texts of the first pair, if there is one. -/
def byteFor (ps : List (Bs × Bs)) (c : UInt8) : Option Bs := (ps.find? (fun p => p.1 == [c])).map (·.2)
theorem byteTo_for (ps : List (Bs × Bs)) (c : UInt8) : byteTo ps c = (byteFor ps c).getD [c] := by
  unfold byteTo byteFor
  cases ps.find? (fun p => p.1 == [c]) <;> rfl
theorem byteFor_cons (p : Bs × Bs) (ps : List (Bs × Bs)) (c : UInt8) : byteFor (p :: ps) c = if p.1 == [c] then some p.2 else byteFor ps c := by
  unfold byteFor
  rw [List.find?_cons]
  cases p.1 == [c] <;> simp
/-- The slice of one byte's text. -/
def RvAt (w : World) (base B : Nat) (x : Value) : Option Bs → Prop
  | none => x = .slice none 0 0
  | some bs => ∃ (b cap : Nat) (t : ByteArray), x = .slice (some ⟨b, 0, none⟩) t.size cap ∧ t.data.toList = bs ∧ t.size ≤ cap ∧ base ≤ b ∧ b ≠ B ∧ b < w.heap.size ∧ Lib.Bytes w b 0 t ∧ ∃ m, w.shape? b = some (5, m)
/-- A replacer of bytes by texts in block B. -/
structure StrAt (w : World) (base B : Nat) (f : UInt8 → Option Bs) (L : List UInt8) : Prop where
  c : ∀ i : UInt8, ∃ x, w.cell? ⟨B, i.toNat, none⟩ = some x ∧ RvAt w base B x (f i)
  r : ∃ v, w.cell? ⟨B, 256, none⟩ = some v ∧ w.ownsRow base 9 1 v L.length (L.map fun b => .string ⟨#[b]⟩) ∧ v.ownBlock ≠ some B
  nf : ∀ o, w.frozen? ⟨B, o, none⟩ = false
  nd : L.Nodup
  mem : ∀ i, i ∈ L ↔ f i ≠ none

/-- What build hands back. -/
inductive Built (w : World) (base : Nat) (qs : List BB) (L : Nat) : Value → Prop
  | single (R F G : Nat) (p v : ByteArray) (S : Nat → Nat) (hq : qs = [(p, v)]) (hp : 1 < p.size) (h : SgAt w R F G p v S) (hb : base ≤ R ∧ base ≤ F ∧ base ≤ G) : Built w base qs L (.iface 61 (at0 R))
  | gen (g : Nat) (m : UInt8 → Nat) (N : Nat) (T : Tr) (hs : ¬ isSingle qs) (ho : ¬ oldOne qs) (h : GenOk w g base qs L m N T) : Built w base qs L (.iface 59 (at0 g))
  | bytes (B : Nat) (R : Nat → Nat) (hs : ¬ isSingle qs) (ho : oldOne qs) (hn : newOne qs) (h : TabAt w B R) (hR : ∀ c : UInt8, byteTo (qs.map tb) c = [UInt8.ofNat (R c.toNat)] ∧ R c.toNat < 256) (hb : base ≤ B) : Built w base qs L (.iface 69 (at0 B))
  | strs (B : Nat) (Lb : List UInt8) (hs : ¬ isSingle qs) (ho : oldOne qs) (hn : ¬ newOne qs) (h : StrAt w base B (byteFor (qs.map tb)) Lb) (hb : base ≤ B) : Built w base qs L (.iface 116 (at0 B))
def BuiltR (qs : List BB) (L : Nat) (w : World) (e : Ending) (w' : World) : Prop := ∃ v, e = .returned v ∧ Built w' w.heap.size qs L v ∧ Below w.heap.size w w'

theorem RvAt.below {w w' : World} {base B : Nat} {x : Value} {o : Option Bs} (h : RvAt w base B x o) (hb : Below w.heap.size w w') : RvAt w' base B x o := by
  cases o with
  | none => exact h
  | some bs =>
    obtain ⟨b, cap, t, e1, e2, e3, e4, e5, e6, e7, m, e8⟩ := h
    exact ⟨b, cap, t, e1, e2, e3, e4, e5, Nat.lt_of_lt_of_le e6 hb.size, fun i hi => (hb.cell (p := ⟨b, 0 + i, none⟩) e6).trans (e7 i hi), m, by unfold World.shape?; rw [hb.block b e6]; exact e8⟩
theorem Built.below {w w' : World} {base : Nat} {qs : List BB} {L : Nat} {v : Value} (h : Built w base qs L v) (hb : Below w.heap.size w w') : Built w' base qs L v := by
  cases h with
  | single R F G p v S hq hp h hk => exact .single R F G p v S hq hp (h.below hb) hk
  | gen g m N T hs ho h => exact .gen g m N T hs ho (h.below hb)
  | bytes B R hs ho hn h hR hk => exact .bytes B R hs ho hn (h.block (hb.block B h.lt)) hR hk
  | strs B Lb hs ho hn h hk =>
    have hB : B < w.heap.size := by
      obtain ⟨x, hx, _⟩ := h.c 0
      exact World.block_lt_of_cell? _ _ hx
    refine .strs B Lb hs ho hn ⟨fun i => ?_, ?_, fun o => (hb.frozen (p := ⟨B, o, none⟩) hB).trans (h.nf o), h.nd, h.mem⟩ hk
    · obtain ⟨x, hx, hr⟩ := h.c i
      exact ⟨x, (hb.cell (p := ⟨B, i.toNat, none⟩) hB).trans hx, hr.below hb⟩
    · obtain ⟨v, hv, hr, hn⟩ := h.r
      exact ⟨v, (hb.cell (p := ⟨B, 256, none⟩) hB).trans hv, ownsRow_bel hr hb, hn⟩
/-- Blocks from base on as they were: the same replacer. -/
theorem Built.keep {w w' : World} {base : Nat} {qs : List BB} {L : Nat} {v : Value} (h : Built w base qs L v) (hz : w.heap.size ≤ w'.heap.size) (hk : ∀ b, base ≤ b → b < w.heap.size → w'.heap[b]? = w.heap[b]?) (hos : w'.os = w.os) (htape : w'.tape = w.tape) (hout : w'.output = w.output) : Built w' base qs L v := by
  cases h with
  | single R F G p v S hq hp h hb =>
    obtain ⟨h1, h2, h3, h4⟩ := h
    have eR := hk R hb.1 (World.block_lt_of_cell? _ _ h1)
    have eF := hk F hb.2.1 (World.block_lt_of_cell? _ _ h3.c0)
    have eG := hk G hb.2.2 h3.lG
    have cR := fun o => World.cell?_of_block (w := w) (w' := w') (a := ⟨R, o, none⟩) eR
    have cF := fun o => World.cell?_of_block (w := w) (w' := w') (a := ⟨F, o, none⟩) eF
    have cG := fun o => World.cell?_of_block (w := w) (w' := w') (a := ⟨G, o, none⟩) eG
    have fF := fun o => World.frozen?_of_block (w := w) (w' := w') (a := ⟨F, o, none⟩) eF
    have fG := fun o => World.frozen?_of_block (w := w) (w' := w') (a := ⟨G, o, none⟩) eG
    exact .single R F G p v S hq hp ⟨(cR 0).trans h1, (cR 1).trans h2, ⟨(cF _).trans h3.c0, fun c hc => (cF _).trans (h3.cb c hc), (cF _).trans h3.cs, fun j hj => (cG _).trans (h3.ct j hj), fun o => (fF o).trans (h3.nF o), fun o => (fG o).trans (h3.nG o), h3.ne, Nat.lt_of_lt_of_le h3.lF hz, Nat.lt_of_lt_of_le h3.lG hz⟩, h4⟩ hb
  | gen g m N T hs ho h =>
    have hg := h.lies.lt g (Tr.has_root h.root)
    exact .gen g m N T hs ho ⟨h.root, h.tab, h.lies.same hz (fun b hb' => hk b (h.lies.lt b hb').1 (h.lies.lt b hb').2), h.rep.block (hk g hg.1 hg.2), h.holds, h.inj, h.N256, h.m255, h.mN⟩
  | bytes B R hs ho hn h hR hb => exact .bytes B R hs ho hn (h.block (hk B hb h.lt)) hR hb
  | strs B Lb hs ho hn h hb =>
    have hB : B < w.heap.size := by
      obtain ⟨x, hx, _⟩ := h.c 0
      exact World.block_lt_of_cell? _ _ hx
    have eB := hk B hb hB
    refine .strs B Lb hs ho hn ⟨fun i => ?_, ?_, fun o => (World.frozen?_of_block (w := w) eB).trans (h.nf o), h.nd, h.mem⟩ hb
    · obtain ⟨x, hx, hr⟩ := h.c i
      refine ⟨x, (World.cell?_of_block (w := w) eB).trans hx, ?_⟩
      cases hf : byteFor (qs.map tb) i with
      | none => rw [hf] at hr; exact hr
      | some bs =>
        rw [hf] at hr
        obtain ⟨b, cap, t, e1, e2, e3, e4, e5, e6, e7, m, e8⟩ := hr
        exact ⟨b, cap, t, e1, e2, e3, e4, e5, Nat.lt_of_lt_of_le e6 hz, fun i hi => (World.cell?_of_block (w := w) (hk b e4 e6)).trans (e7 i hi), m, by unfold World.shape?; rw [hk b e4 e6]; exact e8⟩
    · obtain ⟨v, hv, hr, hn⟩ := h.r
      refine ⟨v, (World.cell?_of_block (w := w) eB).trans hv, ?_, hn⟩
      rcases hr.2 with h0 | ⟨g', cap, cur, rfl, hg1, hg2, hg3⟩
      · exact ⟨hr.1, .inl h0⟩
      · refine ⟨hr.1, .inr ⟨g', cap, cur, rfl, hg1, ?_, hg3⟩⟩
        rw [hk g' hg1 (hr.lt g' rfl).2]; exact hg2
theorem Built.iface {w : World} {base : Nat} {qs : List BB} {L : Nat} {v : Value} (h : Built w base qs L v) : ∃ t B, v = .iface t (at0 B) := by
  cases h with
  | single R F G p v S hq hp h hb => exact ⟨_, _, rfl⟩
  | gen g m N T hs ho h => exact ⟨_, _, rfl⟩
  | bytes B R hs ho hn h hR hb => exact ⟨_, _, rfl⟩
  | strs B Lb hs ho hn h hb => exact ⟨_, _, rfl⟩
end Go.Proofs.Ytnigbgablginnaa

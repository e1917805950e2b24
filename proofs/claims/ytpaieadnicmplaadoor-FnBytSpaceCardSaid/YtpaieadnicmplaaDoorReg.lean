/- For regions that draw their order: the world behind '[]byte(s)' under a name, and what is kept. -/
import Derived.Test.YtpaieadnicmplaaDoorByt
import Derived.Deep.RegionWith
namespace Go.Proofs.YtpaieadnicmplaaDoor
open Go.RowKit Go.Lib

/-- The world behind '[]byte(s)', and the capacity. -/
def cvW (w : World) (s : ByteArray) : World := Lib.bytesWorld w 5 s
def cvN (w : World) (s : ByteArray) : Nat := grownCap w s.size 0 5
theorem cv_run (s : ByteArray) (W : World) : (convert 9 23 (.string s)).run Tryd.prog W = .ok (.slice (some ⟨W.heap.size, 0, none⟩) s.size (cvN W s)) (cvW W s) :=
  Lib.run_convert_string_bytes W 9 23 5 s Tryd.underlying9 Tryd.underlying23 Tryd.underlying5
theorem cv_size (s : ByteArray) (W : World) : (cvW W s).heap.size = W.heap.size + 1 := bytesWorld_size _ _ _
theorem cv_bytes (s : ByteArray) (W : World) (g : Nat) (hg : g = W.heap.size) : Lib.Bytes (cvW W s) g 0 s := by
  subst hg
  intro i hi
  unfold cvW
  rw [Nat.zero_add, bytesWorld_cell W 5 s i hi]
  have e : s.data.toList.getD i 0 = s[i] := by
    simp only [List.getD]
    rw [byte_at s i hi]; rfl
  rw [e]

/-- What lay there lies there. -/
def Bl (w W : World) : Prop := Below w.heap.size w W
theorem Bl.refl (w : World) : Bl w w := Below.refl _ _
theorem Bl.drew {w W : World} (h : Bl w W) : Bl w W.drew := Below.drew h
theorem Bl.alloc {w W : World} (h : Bl w W) (o : Obj) : Bl w (W.alloc o) := Below.alloc h h.size o
theorem Bl.cv {w W : World} (h : Bl w W) (s : ByteArray) : Bl w (cvW W s) := Below.trans h (Joins.below_bytesWorld _ _ _ _ h.size)
theorem Bl.tr {w W W' : World} (h : Bl w W) (k : Below W.heap.size W W') : Bl w W' := Below.trans h (k.mono h.size)

theorem byt_bl {W W' : World} {g o : Nat} {s : ByteArray} (h : Lib.Bytes W g o s) (hb : Bl W W') (hg : g < W.heap.size) : Lib.Bytes W' g o s := bytes_below h hb hg

/-- 'string([]byte{c})' in whatever world that holds the byte. -/
theorem one_at (W : World) (g : Nat) (c : Int) (h : W.cell? ⟨g, 0, none⟩ = some (.int .u8 c)) :
    (convert 23 9 (.slice (some ⟨g, 0, none⟩) 1 1)).run Tryd.prog W = .ok (.string ⟨#[UInt8.ofNat c.toNat]⟩) W := by
  rw [run_convert_bytes_arg _ 23 5 Tryd.underlying23 Tryd.underlying5 g 0 1 1 [c] rfl (fun i hi => by
    obtain rfl : i = 0 := by omega
    simpa using h) 9 Tryd.underlying9]
  rfl

theorem cv_old (s : ByteArray) (W : World) (b o : Nat) (h : b < W.heap.size) : (cvW W s).cell? ⟨b, o, none⟩ = W.cell? ⟨b, o, none⟩ := bytesWorld_old W _ s ⟨b, o, none⟩ h
theorem bcell {W w1 : World} (hb : Below W.heap.size W w1) (b o : Nat) (h : b < W.heap.size) : w1.cell? ⟨b, o, none⟩ = W.cell? ⟨b, o, none⟩ := hb.cell (p := ⟨b, o, none⟩) h
theorem byt_alloc {W : World} {g o : Nat} {s : ByteArray} (h : Lib.Bytes W g o s) (hg : g < W.heap.size) (ob : Obj) : Lib.Bytes (W.alloc ob) g o s := bytes_alloc h hg ob
theorem byt_drew {W : World} {g o : Nat} {s : ByteArray} (h : Lib.Bytes W g o s) : Lib.Bytes W.drew g o s := h
theorem const_run (W : World) (C : Array Value) (n c : Nat) :
    (convert 23 23 (.slice (some ⟨W.heap.size, 0, none⟩) n c)).run Tryd.prog (W.alloc (.cells C 5)) = .ok (.slice (some ⟨W.heap.size, 0, none⟩) n c) (W.alloc (.cells C 5 (C.size, C.size + 1))) := cvC W C n c _ rfl
theorem const_bytes (W : World) (s : ByteArray) (fr : Nat × Nat) (C : Array Value) (g : Nat) (hC : C = cellsB s.data.toList) (hg : g = W.heap.size) : Lib.Bytes (W.alloc (.cells C 5 fr)) g 0 s := by
  subst hg; exact bytes_const W s fr C hC
end Go.Proofs.YtpaieadnicmplaaDoor

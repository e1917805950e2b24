/- The card of FnFieldsJoin: for every input the law returns true and its arguments and the table asciiSpace read as before, where the two variables asciiSpace of gostrings and unicode.White_Space hold what the program's text lays; no other condition. -/
import Derived.Test.YtblaldahhhokmaaDoorWFieldsJoin
import Derived.Test.YtblaldahhhokmaaDoorL9
import Derived.Test.YtblaldahhhokmaaDoorFl
import Derived.Test.YtblaldahhhokmaaDoorL8
import Derived.Test.YtblaldahhhokmaaDoorCards
import Derived.Test.YtblaldahhhokmaaDoorTie
import Derived.ProofKit
import Derived.OpenShut
import Derived.ShutString
import Derived.Deep.DeepHandedRow
import Derived.Deep.DeepWitnessRowRef
import Derived.MakeChecks
import Derived.Lib.SmallJoins
import Derived.ChangeVars
set_option linter.unusedVariables false
namespace Go.Proofs.YtblaldahhhokmaaDoor.fnFieldsJoinDone
open Go.ChangeShapes Go.WideShapes Go.ChangeAt Go.RowKit
set_option maxRecDepth 100000
open Go.ChangeMaps (open_string shut_string)
theorem own : ownKnob Tryd.prog.godebug = none := by kernel_rfl
theorem white_eq : (Rows.laid_unicode_White_Space : DataW Unit) = Lib.whiteData := by kernel_rfl
theorem ascii_eq : (Rows.laid_loop_example_pub_g01460_pub_gostrings_asciiSpace : DataW Unit) = Lib.tabData .u8 Lib.asciiSpaceTab := by kernel_rfl
theorem laid_tabs {W : World} (h : laidMetH Tryd.prog Rows.fnFieldsJoinRow.laid W) : Spaces W := by
  rw [MakeChecks.laidMetH_plain _ _ _ (by kernel_rfl)] at h
  have hw : White W := white_of h (by show _ ∈ (Rows.fnFieldsJoinRow.laid : List (String × DataW Unit)); unfold Rows.fnFieldsJoinRow; rw [white_eq]; simp)
  have ha : Asc0 W := asc0_of h (by show _ ∈ (Rows.fnFieldsJoinRow.laid : List (String × DataW Unit)); unfold Rows.fnFieldsJoinRow; rw [ascii_eq]; simp)
  exact ⟨hw, ha⟩
def ascName : String := "loop.example/pub-g01460/pub/gostrings.asciiSpace"
theorem gA : Tryd.prog.globalNamed ascName = some 0 := by kernel_rfl
theorem gAT : (Tryd.prog.globals[0]?).map (·.type) = some 57 := by kernel_rfl
def cells256 : Array Value := (Lib.asciiSpaceTab.map fun z => Value.int .u8 z).toArray
theorem asc_tab {W : World} (h : laidMetH Tryd.prog Rows.fnFieldsJoinRow.laid W) : W.var? Tryd.prog ascName = some cells256 := by
  rw [MakeChecks.laidMetH_plain _ _ _ (by kernel_rfl)] at h
  obtain ⟨g, t, cs, fuel, p, hg, hty, hvar, hd⟩ := Lib.laidMet.reads h (n := ascName) (d := Lib.tabData .u8 Lib.asciiSpaceTab) (by show _ ∈ (Rows.fnFieldsJoinRow.laid : List (String × DataW Unit)); unfold Rows.fnFieldsJoinRow ascName; rw [ascii_eq]; simp)
  obtain rfl : 57 = t := Option.some.inj (gAT.symm.trans ((Option.some.inj (gA.symm.trans hg)) ▸ hty))
  have hcs := Lib.cells_of_tab Tryd.underlying57 Tryd.underlying5 (by kernel_rfl) (by kernel_rfl) hd
  rw [hvar]; unfold cells256; rw [← hcs]
theorem reads_table {H : Type} (enc : TypeId × Value → H) (W : World) (sp : Nat → Bool) : DataW.trod enc Tryd.prog W 0 sp true 3 57 cells256.toList = some (Lib.tabData .u8 Lib.asciiSpaceTab, []) := by kernel_rfl
set_option maxRecDepth 100000 in
theorem contract (H : Type) (enc : TypeId × Value → H) (W : World) (base : Nat) (args : Array Value) (ds gs : List (DataW H)) (before : List MemPlace)
    (hval0 : ∀ (j : Nat) t v, Tryd.f8.params[j]? = some t → args[j]? = some v → Value.okWide Tryd.prog W .any base t v)
    (hW : DataW.Whole enc Tryd.prog Tryd.f8.params.toList Rows.fnFieldsJoinSpec.vars false W args.toList ds gs before) (hL : laidMetH Tryd.prog Rows.fnFieldsJoinRow.laid W) :
    Calls Tryd.prog 8 args W fun e W' => ∃ v, e = .returned v ∧ Rows.fnFieldsJoinSpec.post enc Tryd.prog Tryd.f8 false true false false W args v W' := by
  have hval := hval0
  have hW' := hW
  obtain ⟨p, q, hA0, hV, rfl, hfz, hnd⟩ := hW
  have hA : DataW.TrodAll enc Tryd.prog W 0 (fun _ => true) true Tryd.f8.params.toList args.toList ds p := hA0
  rw [Tryd.params8] at hA hval
  obtain ⟨v0, vs0, d0, ds0, p0, q0, hargs, rfl, rfl, h0, r0⟩ := trodAll_cons hA
  obtain ⟨rfl, rfl, rfl⟩ := trodAll_nil r0
  obtain rfl : args = #[v0] := by cases args; simp_all
  have hV' : DataW.TrodVars enc Tryd.prog W (fun _ => true) [ascName] gs q := hV
  obtain ⟨g, t, cs, fuel, d, p', rfl, hg, ht, hvar, hd, rfl⟩ := trodVars_one hV'
  obtain rfl : 0 = g := Option.some.inj (gA.symm.trans hg)
  obtain rfl : 57 = t := Option.some.inj (gAT.symm.trans ht)
  obtain rfl : cs = cells256 := Option.some.inj (hvar.symm.trans (asc_tab hL))
  obtain ⟨rfl, rfl⟩ := DataW.Trod.unique (v := .agg cells256) ⟨fuel, hd⟩ ⟨3, reads_table enc W _⟩
  obtain ⟨a0, rfl, rfl, rfl, w0⟩ := open_string Tryd.underlying9 (hval 0 9 v0 rfl rfl) h0
  clear hA0 hval0
  simp only [List.append_nil] at hW'
  refine (walk_FnFieldsJoin a0 W w0 (laid_tabs hL)).mono fun e W' ⟨he, bel⟩ => ?_
  subst he
  exact ⟨_, rfl, _, _, _, [], [], _, hW', trodAll_mk1 (shut_bool Tryd.underlying4 _), (trodAll_cons_mk (shut_string Tryd.underlying9 w0) trodAll_mk0), ⟨0, 57, cells256, 3, [], [], gA, gAT, Joins.var_stays gA hvar bel (Nat.le_refl _), reads_table enc W' _, rfl, rfl⟩, bel.frame _, (fun h => by cases h)⟩
/-- A world for the witness: the settled one, the two tables holding what their initialisers lay. -/
def layFirst : Obj → Obj
  | .cells _ t frozen => .cells ((List.range 256).map fun i => Value.int .u8 (Lib.firstT i)).toArray t frozen
  | o => o
def layAccept : Obj → Obj
  | .cells _ t frozen => .cells ((List.range 16).flatMap fun i => [Value.int .u8 (Lib.accLo i), Value.int .u8 (Lib.accHi i)]).toArray t frozen
  | o => o
def layAscii : Obj → Obj
  | .cells _ t frozen => .cells (Lib.asciiSpaceTab.map fun z => Value.int .u8 z).toArray t frozen
  | o => o
def layPtr (a : Addr) : Obj → Obj
  | .cells _ t frozen => .cells #[.pointer (some a)] t frozen
  | o => o
noncomputable def laidWorld (os : Os) : World :=
  let N := (World.settled Tryd.prog os).heap.size
  let w0 := World.holding Tryd.prog os ⟨#[.cells (Lib.whiteT.map fun (z : Nat) => Value.int .u16 (z : Int)).toArray 97, .cells #[.slice (some ⟨N, 0, none⟩) 7 7, .slice none 0 0, .int .i64 2] 94], #[], []⟩
  let h1 := w0.heap.modify 0 layAscii
  let h2 := h1.modify 1 (layPtr ⟨N + 1, 0, none⟩)
  { w0 with heap := h2 }
set_option maxRecDepth 100000 in
theorem laid_met (os : Os) : laidMet Tryd.prog Rows.fnFieldsJoinRow.laid ((laidWorld os).forCall (fun _ _ => 0) ⟨#[], #[.string ByteArray.empty], []⟩).memory :=
  laidMet_of_run' 10 (by kernel_rfl) (by kernel_rfl)
theorem reads (os : Os) {H : Type} (enc : TypeId × Value → H) : ∃ places, DataW.whole enc Tryd.prog ((laidWorld os).forCall (fun _ _ => 0) ⟨#[], #[.string ByteArray.empty], []⟩).memory Tryd.f8.params.toList Rows.fnFieldsJoinSpec.vars false #[.string ByteArray.empty].toList 8 = some ([.lit (.string [])], [Lib.tabData .u8 Lib.asciiSpaceTab], places) := by
  have hw : (DataW.whole enc Tryd.prog ((laidWorld os).forCall (fun _ _ => 0) ⟨#[], #[.string ByteArray.empty], []⟩).memory Tryd.f8.params.toList Rows.fnFieldsJoinSpec.vars false #[.string ByteArray.empty].toList 8).map (fun x => (x.1, x.2.1)) = some ([.lit (.string [])], [Lib.tabData .u8 Lib.asciiSpaceTab]) := by kernel_rfl
  obtain ⟨⟨x1, x2, x3⟩, hx, hx1⟩ := Option.map_eq_some_iff.1 hw
  simp only [Prod.mk.injEq] at hx1
  obtain ⟨rfl, rfl⟩ := hx1
  exact ⟨_, hx⟩
set_option maxRecDepth 100000 in
theorem lifted (os : Os) (started : os.Started) (H : Type) (enc : TypeId × Value → H) (F : Stop.Interp) :
    ReturnsInHanded {} Tryd.checked os 8 .any ((OpenSpec.ofChange Rows.fnFieldsJoinSpec).preRow enc Tryd.prog Tryd.f8 Rows.fnFieldsJoinRow.domain false Rows.fnFieldsJoinRow.laid) (((OpenSpec.ofChange Rows.fnFieldsJoinSpec).at F).post enc Tryd.prog Tryd.f8 false true false false) := by
  obtain ⟨places, hx⟩ := reads os enc
  refine returnsInHanded_of_row (C := Tryd.checked) (s := (OpenSpec.ofChange Rows.fnFieldsJoinSpec)) own started (by kernel_rfl) Tryd.func8
    (witness_row_atRef (enc := enc) (C := Tryd.checked) false (laidWorld os) #[.string ByteArray.empty] rfl (by kernel_rfl) (by kernel_rfl) (by kernel_rfl)
      (OpenSpec.preRow_of_cond 8 hx (by kernel_rfl) (fun k hk => by cases hk) (by kernel_rfl) (laid_met os))) ?_
  intro W base args ds gs before hval hW _ hcond _ hL _ _
  exact contract H enc W base args ds gs before hval hW hL
theorem said : Rows.FnFieldsJoinSaid :=
  OpenClaim.holds_of_cond 8 Tryd.f8 rfl rfl rfl rfl rfl rfl rfl ⟨rfl, rfl, rfl, rfl, rfl⟩ rfl rfl rfl rfl rfl (by kernel_rfl) Tryd.func8 (by kernel_rfl)
    (of_decide_eq_true (by kernel_rfl)) (by unfold Func.isWrapper; first | (rw [if_pos (by decide +kernel)]; kernel_rfl) | (rw [if_neg (by decide +kernel)]; exact ⟨rfl, rfl⟩))
    (fun os started H enc _ F => by rw [OpenClaim.pre_eq_preRow]; exact lifted os started H enc F)
theorem plain (f : FuncId) (fn : Func) (hf : Tryd.pinned.checked.prog.funcNamed "loop.example/pub-g01460/laws.FnFieldsJoin" = some f) (hfn : Tryd.pinned.checked.prog.funcs[f]? = some fn) :
    false = Tryd.pinned.checked.prog.looks [] ∧ ∀ (j : Nat) t, fn.params[j]? = some t → Tryd.pinned.checked.prog.wantsStandIn t = false := by
  obtain rfl : f = 8 := Option.some.inj ((show Tryd.prog.funcNamed "loop.example/pub-g01460/laws.FnFieldsJoin" = some 8 by kernel_rfl).symm.trans hf) |>.symm
  obtain rfl : fn = Tryd.f8 := (Option.some.inj (Tryd.func8.symm.trans hfn)).symm
  refine ⟨by kernel_rfl, fun j t ht => ?_⟩
  rw [Tryd.params8] at ht
  have hm : t = 9 := by simpa using Array.mem_of_getElem? ht
  rcases hm with rfl
  · exact (show Tryd.prog.wantsStandIn 9 = false by kernel_rfl)
/-- The card. -/
theorem proved : Rows.FnFieldsJoinCardSaid :=
  Claim7.holds_tied_plain_at .later [] _ _ _ _ said (fun _ h => by cases h) (by kernel_rfl) (fun _ h => by cases h) fnFieldsJoin_row_tie rfl ⟨rfl, rfl⟩ (by kernel_rfl) rfl plain (by kernel_rfl)
#print axioms proved
end Go.Proofs.YtblaldahhhokmaaDoor.fnFieldsJoinDone

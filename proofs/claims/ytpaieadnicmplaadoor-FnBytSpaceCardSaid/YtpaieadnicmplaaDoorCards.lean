/-
  DERIVED. GIVEN WITH THE SEED: THE CARDS: each row of YtpaieadnicmplaaDoorRows.lean that lists a variable, with what it lists TIED to the program's text (the seventh form; the later family's looks); each row that meets fmt, with fmt's text TOLD by the authors' own Lean function (tested against real Go, not proved from fmt's source: count such statements apart). THE CARD IS WHAT COUNTS. Prove the row's statement (the work); the ties are given (YtpaieadnicmplaaDoorTie.lean); close each card by the builder's one call (the guide's Derived/Test/ToyasCard.lean, 'card_holds'). Laid BY PROGRAM, IN A SANDBOX (cutbox-door.mjs). By AI agents, Wed Nov 11 2026. No macro, syntax, notation, axiom, sorry.
-/
import Derived.Test.YtpaieadnicmplaaDoorRows
import GoSem.ClaimSeven
namespace Go.Proofs.YtpaieadnicmplaaDoor
namespace Rows

/-- THE TIED CARD OF 'laws.FnBytIndexRune'. -/
def fnBytIndexRuneCard : Claim7 := { stood := { row := fnBytIndexRuneRow, standIns := [], harness := (true, "351e11d2788a8b779538ba2e538a6cf9e138f9adb4b05a15b9bcacc7c7e44454"), looks := false }, kinds := [], alts := [], laidByText := true, laidKinds := [.data, .pinned], laidTests := true, laidLooks := .later }
def FnBytIndexRuneCardSaid : Prop := Claim7.holds Tryd.pinned (.plain (OpenSpec.ofChange fnBytIndexRuneSpec)) fnBytIndexRuneCard

/-- THE TIED CARD OF 'laws.FnBytSplit'. -/
def fnBytSplitCard : Claim7 := { stood := { row := fnBytSplitRow, standIns := [], harness := (true, "351e11d2788a8b779538ba2e538a6cf9e138f9adb4b05a15b9bcacc7c7e44454"), looks := false }, kinds := [], alts := [], laidByText := true, laidKinds := [.data, .pinned], laidTests := true, laidLooks := .later }
def FnBytSplitCardSaid : Prop := Claim7.holds Tryd.pinned (.plain (OpenSpec.ofChange fnBytSplitSpec)) fnBytSplitCard

/-- THE TIED CARD OF 'laws.FnBytSpace'. -/
def fnBytSpaceCard : Claim7 := { stood := { row := fnBytSpaceRow, standIns := [], harness := (true, "351e11d2788a8b779538ba2e538a6cf9e138f9adb4b05a15b9bcacc7c7e44454"), looks := false }, kinds := [], alts := [], laidByText := true, laidKinds := [.data, .listed, .data, .pinned], laidTests := true, laidLooks := .later }
def FnBytSpaceCardSaid : Prop := Claim7.holds Tryd.pinned (.plain (OpenSpec.ofChange fnBytSpaceSpec)) fnBytSpaceCard

/-- THE SECOND FORM's CARD OF 'laws.FnBytIndexRune'. -/
def fnBytIndexRuneUptoCard : Claim7 := { stood := { row := fnBytIndexRuneUptoRow, standIns := [], harness := (true, "351e11d2788a8b779538ba2e538a6cf9e138f9adb4b05a15b9bcacc7c7e44454"), looks := false }, kinds := [], alts := [], laidByText := true, laidKinds := [.data, .pinned], laidTests := true, laidLooks := .later }
def FnBytIndexRuneUptoCardSaid : Prop := Claim7.holds Tryd.pinned (.plain (OpenSpec.upto fnBytIndexRuneSpec)) fnBytIndexRuneUptoCard

/-- THE SECOND FORM's CARD OF 'laws.FnBytSplit'. -/
def fnBytSplitUptoCard : Claim7 := { stood := { row := fnBytSplitUptoRow, standIns := [], harness := (true, "351e11d2788a8b779538ba2e538a6cf9e138f9adb4b05a15b9bcacc7c7e44454"), looks := false }, kinds := [], alts := [], laidByText := true, laidKinds := [.data, .pinned], laidTests := true, laidLooks := .later }
def FnBytSplitUptoCardSaid : Prop := Claim7.holds Tryd.pinned (.plain (OpenSpec.upto fnBytSplitSpec)) fnBytSplitUptoCard

/-- THE SECOND FORM's CARD OF 'laws.FnBytSpace'. -/
def fnBytSpaceUptoCard : Claim7 := { stood := { row := fnBytSpaceUptoRow, standIns := [], harness := (true, "351e11d2788a8b779538ba2e538a6cf9e138f9adb4b05a15b9bcacc7c7e44454"), looks := false }, kinds := [], alts := [], laidByText := true, laidKinds := [.data, .listed, .data, .pinned], laidTests := true, laidLooks := .later }
def FnBytSpaceUptoCardSaid : Prop := Claim7.holds Tryd.pinned (.plain (OpenSpec.upto fnBytSpaceSpec)) fnBytSpaceUptoCard
end Rows
end Go.Proofs.YtpaieadnicmplaaDoor

/-
  DERIVED. GIVEN WITH THE SEED: THE CARDS: each row of YtblaldahhhokmaaDoorRows.lean that lists a variable, with what it lists TIED to the program's text (the seventh form; the later family's looks); each row that meets fmt, with fmt's text TOLD by the authors' own Lean function (tested against real Go, not proved from fmt's source: count such statements apart). THE CARD IS WHAT COUNTS. Prove the row's statement (the work); the ties are given (YtblaldahhhokmaaDoorTie.lean); close each card by the builder's one call (the guide's Derived/Test/ToyasCard.lean, 'card_holds'). Laid BY PROGRAM, IN A SANDBOX (cutbox-door.mjs). By AI agents, Wed Nov 11 2026. No macro, syntax, notation, axiom, sorry.
-/
import Derived.Test.YtblaldahhhokmaaDoorRows
import GoSem.ClaimSeven
namespace Go.Proofs.YtblaldahhhokmaaDoor
namespace Rows

/-- THE TIED CARD OF 'laws.FnStrFields'. -/
def fnStrFieldsCard : Claim7 := { stood := { row := fnStrFieldsRow, standIns := [], harness := (true, "21ccae7c2a9badb76db324720ace26b923c2760ebb1c65a618a3752ecfeead3e"), looks := false }, kinds := [], alts := [], laidByText := true, laidKinds := [.listed, .data], laidTests := true, laidLooks := .later }
def FnStrFieldsCardSaid : Prop := Claim7.holds Tryd.pinned (.plain (OpenSpec.ofChange fnStrFieldsSpec)) fnStrFieldsCard

/-- THE TIED CARD OF 'laws.FnStrTrimSpace'. -/
def fnStrTrimSpaceCard : Claim7 := { stood := { row := fnStrTrimSpaceRow, standIns := [], harness := (true, "21ccae7c2a9badb76db324720ace26b923c2760ebb1c65a618a3752ecfeead3e"), looks := false }, kinds := [], alts := [], laidByText := true, laidKinds := [.data, .listed, .data, .pinned], laidTests := true, laidLooks := .later }
def FnStrTrimSpaceCardSaid : Prop := Claim7.holds Tryd.pinned (.plain (OpenSpec.ofChange fnStrTrimSpaceSpec)) fnStrTrimSpaceCard

/-- THE TIED CARD OF 'laws.FnStrSplit'. -/
def fnStrSplitCard : Claim7 := { stood := { row := fnStrSplitRow, standIns := [], harness := (true, "21ccae7c2a9badb76db324720ace26b923c2760ebb1c65a618a3752ecfeead3e"), looks := false }, kinds := [], alts := [], laidByText := true, laidKinds := [.data, .pinned], laidTests := true, laidLooks := .later }
def FnStrSplitCardSaid : Prop := Claim7.holds Tryd.pinned (.plain (OpenSpec.ofChange fnStrSplitSpec)) fnStrSplitCard

/-- THE TIED CARD OF 'laws.FnStrSplitN'. -/
def fnStrSplitNCard : Claim7 := { stood := { row := fnStrSplitNRow, standIns := [], harness := (true, "21ccae7c2a9badb76db324720ace26b923c2760ebb1c65a618a3752ecfeead3e"), looks := false }, kinds := [], alts := [], laidByText := true, laidKinds := [.data, .pinned], laidTests := true, laidLooks := .later }
def FnStrSplitNCardSaid : Prop := Claim7.holds Tryd.pinned (.plain (OpenSpec.ofChange fnStrSplitNSpec)) fnStrSplitNCard

/-- THE TIED CARD OF 'laws.FnSplitTwo'. -/
def fnSplitTwoCard : Claim7 := { stood := { row := fnSplitTwoRow, standIns := [], harness := (true, "21ccae7c2a9badb76db324720ace26b923c2760ebb1c65a618a3752ecfeead3e"), looks := false }, kinds := [], alts := [], laidByText := true, laidKinds := [.data, .pinned], laidTests := true, laidLooks := .later }
def FnSplitTwoCardSaid : Prop := Claim7.holds Tryd.pinned (.plain (OpenSpec.ofChange fnSplitTwoSpec)) fnSplitTwoCard

/-- THE TIED CARD OF 'laws.FnFieldsJoin'. -/
def fnFieldsJoinCard : Claim7 := { stood := { row := fnFieldsJoinRow, standIns := [], harness := (true, "21ccae7c2a9badb76db324720ace26b923c2760ebb1c65a618a3752ecfeead3e"), looks := false }, kinds := [], alts := [], laidByText := true, laidKinds := [.listed, .data], laidTests := true, laidLooks := .later }
def FnFieldsJoinCardSaid : Prop := Claim7.holds Tryd.pinned (.plain (OpenSpec.ofChange fnFieldsJoinSpec)) fnFieldsJoinCard

/-- THE TIED CARD OF 'laws.FnStrReplaceAll'. -/
def fnStrReplaceAllCard : Claim7 := { stood := { row := fnStrReplaceAllRow, standIns := [], harness := (true, "21ccae7c2a9badb76db324720ace26b923c2760ebb1c65a618a3752ecfeead3e"), looks := false }, kinds := [], alts := [], laidByText := true, laidKinds := [.data, .pinned], laidTests := true, laidLooks := .later }
def FnStrReplaceAllCardSaid : Prop := Claim7.holds Tryd.pinned (.plain (OpenSpec.ofChange fnStrReplaceAllSpec)) fnStrReplaceAllCard

/-- THE TIED CARD OF 'laws.FnStrIndexAnyBytesCandidate'. -/
def fnStrIndexAnyBytesCandidateCard : Claim7 := { stood := { row := fnStrIndexAnyBytesCandidateRow, standIns := [], harness := (true, "21ccae7c2a9badb76db324720ace26b923c2760ebb1c65a618a3752ecfeead3e"), looks := false }, kinds := [], alts := [], laidByText := true, laidKinds := [.data, .pinned], laidTests := true, laidLooks := .later }
def FnStrIndexAnyBytesCandidateCardSaid : Prop := Claim7.holds Tryd.pinned (.plain (OpenSpec.ofChange fnStrIndexAnyBytesCandidateSpec)) fnStrIndexAnyBytesCandidateCard

/-- THE TIED CARD OF 'laws.FnStrSplitSeq'. -/
def fnStrSplitSeqCard : Claim7 := { stood := { row := fnStrSplitSeqRow, standIns := [], harness := (true, "21ccae7c2a9badb76db324720ace26b923c2760ebb1c65a618a3752ecfeead3e"), looks := false }, kinds := [], alts := [], laidByText := true, laidKinds := [.data, .pinned], laidTests := true, laidLooks := .later }
def FnStrSplitSeqCardSaid : Prop := Claim7.holds Tryd.pinned (.plain (OpenSpec.ofChange fnStrSplitSeqSpec)) fnStrSplitSeqCard

/-- THE TIED CARD OF 'laws.FnSplitJoin'. -/
def fnSplitJoinCard : Claim7 := { stood := { row := fnSplitJoinRow, standIns := [], harness := (true, "21ccae7c2a9badb76db324720ace26b923c2760ebb1c65a618a3752ecfeead3e"), looks := false }, kinds := [], alts := [], laidByText := true, laidKinds := [.data, .pinned], laidTests := true, laidLooks := .later }
def FnSplitJoinCardSaid : Prop := Claim7.holds Tryd.pinned (.plain (OpenSpec.ofChange fnSplitJoinSpec)) fnSplitJoinCard

/-- THE TIED CARD OF 'laws.FnReplaceSplit'. -/
def fnReplaceSplitCard : Claim7 := { stood := { row := fnReplaceSplitRow, standIns := [], harness := (true, "21ccae7c2a9badb76db324720ace26b923c2760ebb1c65a618a3752ecfeead3e"), looks := false }, kinds := [], alts := [], laidByText := true, laidKinds := [.data, .pinned], laidTests := true, laidLooks := .later }
def FnReplaceSplitCardSaid : Prop := Claim7.holds Tryd.pinned (.plain (OpenSpec.ofChange fnReplaceSplitSpec)) fnReplaceSplitCard

/-- THE SECOND FORM's CARD OF 'laws.FnStrFields'. -/
def fnStrFieldsUptoCard : Claim7 := { stood := { row := fnStrFieldsUptoRow, standIns := [], harness := (true, "21ccae7c2a9badb76db324720ace26b923c2760ebb1c65a618a3752ecfeead3e"), looks := false }, kinds := [], alts := [], laidByText := true, laidKinds := [.listed, .data], laidTests := true, laidLooks := .later }
def FnStrFieldsUptoCardSaid : Prop := Claim7.holds Tryd.pinned (.plain (OpenSpec.upto fnStrFieldsSpec)) fnStrFieldsUptoCard

/-- THE SECOND FORM's CARD OF 'laws.FnStrTrimSpace'. -/
def fnStrTrimSpaceUptoCard : Claim7 := { stood := { row := fnStrTrimSpaceUptoRow, standIns := [], harness := (true, "21ccae7c2a9badb76db324720ace26b923c2760ebb1c65a618a3752ecfeead3e"), looks := false }, kinds := [], alts := [], laidByText := true, laidKinds := [.data, .listed, .data, .pinned], laidTests := true, laidLooks := .later }
def FnStrTrimSpaceUptoCardSaid : Prop := Claim7.holds Tryd.pinned (.plain (OpenSpec.upto fnStrTrimSpaceSpec)) fnStrTrimSpaceUptoCard

/-- THE SECOND FORM's CARD OF 'laws.FnStrSplit'. -/
def fnStrSplitUptoCard : Claim7 := { stood := { row := fnStrSplitUptoRow, standIns := [], harness := (true, "21ccae7c2a9badb76db324720ace26b923c2760ebb1c65a618a3752ecfeead3e"), looks := false }, kinds := [], alts := [], laidByText := true, laidKinds := [.data, .pinned], laidTests := true, laidLooks := .later }
def FnStrSplitUptoCardSaid : Prop := Claim7.holds Tryd.pinned (.plain (OpenSpec.upto fnStrSplitSpec)) fnStrSplitUptoCard

/-- THE SECOND FORM's CARD OF 'laws.FnStrSplitN'. -/
def fnStrSplitNUptoCard : Claim7 := { stood := { row := fnStrSplitNUptoRow, standIns := [], harness := (true, "21ccae7c2a9badb76db324720ace26b923c2760ebb1c65a618a3752ecfeead3e"), looks := false }, kinds := [], alts := [], laidByText := true, laidKinds := [.data, .pinned], laidTests := true, laidLooks := .later }
def FnStrSplitNUptoCardSaid : Prop := Claim7.holds Tryd.pinned (.plain (OpenSpec.upto fnStrSplitNSpec)) fnStrSplitNUptoCard

/-- THE SECOND FORM's CARD OF 'laws.FnSplitTwo'. -/
def fnSplitTwoUptoCard : Claim7 := { stood := { row := fnSplitTwoUptoRow, standIns := [], harness := (true, "21ccae7c2a9badb76db324720ace26b923c2760ebb1c65a618a3752ecfeead3e"), looks := false }, kinds := [], alts := [], laidByText := true, laidKinds := [.data, .pinned], laidTests := true, laidLooks := .later }
def FnSplitTwoUptoCardSaid : Prop := Claim7.holds Tryd.pinned (.plain (OpenSpec.upto fnSplitTwoSpec)) fnSplitTwoUptoCard

/-- THE SECOND FORM's CARD OF 'laws.FnFieldsJoin'. -/
def fnFieldsJoinUptoCard : Claim7 := { stood := { row := fnFieldsJoinUptoRow, standIns := [], harness := (true, "21ccae7c2a9badb76db324720ace26b923c2760ebb1c65a618a3752ecfeead3e"), looks := false }, kinds := [], alts := [], laidByText := true, laidKinds := [.listed, .data], laidTests := true, laidLooks := .later }
def FnFieldsJoinUptoCardSaid : Prop := Claim7.holds Tryd.pinned (.plain (OpenSpec.upto fnFieldsJoinSpec)) fnFieldsJoinUptoCard

/-- THE SECOND FORM's CARD OF 'laws.FnStrReplaceAll'. -/
def fnStrReplaceAllUptoCard : Claim7 := { stood := { row := fnStrReplaceAllUptoRow, standIns := [], harness := (true, "21ccae7c2a9badb76db324720ace26b923c2760ebb1c65a618a3752ecfeead3e"), looks := false }, kinds := [], alts := [], laidByText := true, laidKinds := [.data, .pinned], laidTests := true, laidLooks := .later }
def FnStrReplaceAllUptoCardSaid : Prop := Claim7.holds Tryd.pinned (.plain (OpenSpec.upto fnStrReplaceAllSpec)) fnStrReplaceAllUptoCard

/-- THE SECOND FORM's CARD OF 'laws.FnStrIndexAnyBytesCandidate'. -/
def fnStrIndexAnyBytesCandidateUptoCard : Claim7 := { stood := { row := fnStrIndexAnyBytesCandidateUptoRow, standIns := [], harness := (true, "21ccae7c2a9badb76db324720ace26b923c2760ebb1c65a618a3752ecfeead3e"), looks := false }, kinds := [], alts := [], laidByText := true, laidKinds := [.data, .pinned], laidTests := true, laidLooks := .later }
def FnStrIndexAnyBytesCandidateUptoCardSaid : Prop := Claim7.holds Tryd.pinned (.plain (OpenSpec.upto fnStrIndexAnyBytesCandidateSpec)) fnStrIndexAnyBytesCandidateUptoCard

/-- THE SECOND FORM's CARD OF 'laws.FnStrSplitSeq'. -/
def fnStrSplitSeqUptoCard : Claim7 := { stood := { row := fnStrSplitSeqUptoRow, standIns := [], harness := (true, "21ccae7c2a9badb76db324720ace26b923c2760ebb1c65a618a3752ecfeead3e"), looks := false }, kinds := [], alts := [], laidByText := true, laidKinds := [.data, .pinned], laidTests := true, laidLooks := .later }
def FnStrSplitSeqUptoCardSaid : Prop := Claim7.holds Tryd.pinned (.plain (OpenSpec.upto fnStrSplitSeqSpec)) fnStrSplitSeqUptoCard

/-- THE SECOND FORM's CARD OF 'laws.FnSplitJoin'. -/
def fnSplitJoinUptoCard : Claim7 := { stood := { row := fnSplitJoinUptoRow, standIns := [], harness := (true, "21ccae7c2a9badb76db324720ace26b923c2760ebb1c65a618a3752ecfeead3e"), looks := false }, kinds := [], alts := [], laidByText := true, laidKinds := [.data, .pinned], laidTests := true, laidLooks := .later }
def FnSplitJoinUptoCardSaid : Prop := Claim7.holds Tryd.pinned (.plain (OpenSpec.upto fnSplitJoinSpec)) fnSplitJoinUptoCard

/-- THE SECOND FORM's CARD OF 'laws.FnReplaceSplit'. -/
def fnReplaceSplitUptoCard : Claim7 := { stood := { row := fnReplaceSplitUptoRow, standIns := [], harness := (true, "21ccae7c2a9badb76db324720ace26b923c2760ebb1c65a618a3752ecfeead3e"), looks := false }, kinds := [], alts := [], laidByText := true, laidKinds := [.data, .pinned], laidTests := true, laidLooks := .later }
def FnReplaceSplitUptoCardSaid : Prop := Claim7.holds Tryd.pinned (.plain (OpenSpec.upto fnReplaceSplitSpec)) fnReplaceSplitUptoCard
end Rows
end Go.Proofs.YtblaldahhhokmaaDoor

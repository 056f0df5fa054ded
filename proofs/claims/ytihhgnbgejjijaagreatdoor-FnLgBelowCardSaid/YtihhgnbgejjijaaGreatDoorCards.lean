/-
  DERIVED. GIVEN WITH THE SEED: THE CARDS: each row of YtihhgnbgejjijaaGreatDoorRows.lean that lists a variable, with what it lists TIED to the program's text (the seventh form; the later family's looks); each row that meets fmt, with fmt's text TOLD by the authors' own Lean function (tested against real Go, not proved from fmt's source: count such statements apart). THE CARD IS WHAT COUNTS. Prove the row's statement (the work); the ties are given (YtihhgnbgejjijaaGreatDoorTie.lean); close each card by the builder's one call (the guide's Derived/Test/ToyasCard.lean, 'card_holds'). Laid BY PROGRAM, IN A SANDBOX (cutbox-door.mjs). By AI agents, Wed Nov 11 2026. No macro, syntax, notation, axiom, sorry.
-/
import Derived.Test.YtihhgnbgejjijaaGreatDoorRows
import GoSem.ClaimSeven
namespace Go.Proofs.YtihhgnbgejjijaaGreatDoor
namespace Rows

/-- THE TIED CARD OF 'laws.FnRcArgs'. -/
def fnRcArgsCard : Claim7 := { stood := { row := fnRcArgsRow, standIns := [], harness := (true, "f1c78c0eebaef3e01c959e22c91a2f08f28e3fda960cafc1c97606b87ac3c33c"), looks := true }, kinds := [], alts := [], laidByText := true, laidKinds := [.data], laidTests := true, laidLooks := .later }
def FnRcArgsCardSaid : Prop := Claim7.holds Tryz.pinned (.plain (OpenSpec.ofChange fnRcArgsSpec)) fnRcArgsCard

/-- THE TIED CARD OF 'laws.FnRcPairs'. -/
def fnRcPairsCard : Claim7 := { stood := { row := fnRcPairsRow, standIns := [], harness := (true, "f1c78c0eebaef3e01c959e22c91a2f08f28e3fda960cafc1c97606b87ac3c33c"), looks := true }, kinds := [], alts := [], laidByText := true, laidKinds := [.data], laidTests := true, laidLooks := .later }
def FnRcPairsCardSaid : Prop := Claim7.holds Tryz.pinned (.plain (OpenSpec.ofChange fnRcPairsSpec)) fnRcPairsCard

/-- THE TIED CARD OF 'laws.FnRcPieces'. -/
def fnRcPiecesCard : Claim7 := { stood := { row := fnRcPiecesRow, standIns := [], harness := (true, "f1c78c0eebaef3e01c959e22c91a2f08f28e3fda960cafc1c97606b87ac3c33c"), looks := true }, kinds := [], alts := [], laidByText := true, laidKinds := [.data], laidTests := true, laidLooks := .later }
def FnRcPiecesCardSaid : Prop := Claim7.holds Tryz.pinned (.plain (OpenSpec.ofChange fnRcPiecesSpec)) fnRcPiecesCard

/-- THE TIED CARD OF 'laws.FnRcClones'. -/
def fnRcClonesCard : Claim7 := { stood := { row := fnRcClonesRow, standIns := [], harness := (true, "f1c78c0eebaef3e01c959e22c91a2f08f28e3fda960cafc1c97606b87ac3c33c"), looks := true }, kinds := [], alts := [], laidByText := true, laidKinds := [.data, .data, .data, .data, .data, .pinned, .pinned], laidTests := true, laidLooks := .later }
def FnRcClonesCardSaid : Prop := Claim7.holds Tryz.pinned (.plain (OpenSpec.ofChange fnRcClonesSpec)) fnRcClonesCard

/-- THE TIED CARD OF 'laws.FnRcRecords'. -/
def fnRcRecordsCard : Claim7 := { stood := { row := fnRcRecordsRow, standIns := [], harness := (true, "f1c78c0eebaef3e01c959e22c91a2f08f28e3fda960cafc1c97606b87ac3c33c"), looks := true }, kinds := [], alts := [], laidByText := true, laidKinds := [.data, .data, .data, .data, .data, .pinned, .pinned], laidTests := true, laidLooks := .later }
def FnRcRecordsCardSaid : Prop := Claim7.holds Tryz.pinned (.plain (OpenSpec.ofChange fnRcRecordsSpec)) fnRcRecordsCard

/-- THE TIED CARD OF 'laws.FnRcSplit'. -/
def fnRcSplitCard : Claim7 := { stood := { row := fnRcSplitRow, standIns := [], harness := (true, "f1c78c0eebaef3e01c959e22c91a2f08f28e3fda960cafc1c97606b87ac3c33c"), looks := true }, kinds := [], alts := [], laidByText := true, laidKinds := [.data, .data, .data, .data, .data, .pinned, .pinned], laidTests := true, laidLooks := .later }
def FnRcSplitCardSaid : Prop := Claim7.holds Tryz.pinned (.plain (OpenSpec.ofChange fnRcSplitSpec)) fnRcSplitCard

/-- THE TIED CARD OF 'laws.FnLgEach'. -/
def fnLgEachCard : Claim7 := { stood := { row := fnLgEachRow, standIns := [], harness := (true, "f1c78c0eebaef3e01c959e22c91a2f08f28e3fda960cafc1c97606b87ac3c33c"), looks := true }, kinds := [], alts := [], laidByText := true, laidKinds := [.data], laidTests := true, laidLooks := .later }
def FnLgEachCardSaid : Prop := Claim7.holds Tryz.pinned (.plain (OpenSpec.ofChange fnLgEachSpec)) fnLgEachCard

/-- THE TIED CARD OF 'laws.FnLgMulti'. -/
def fnLgMultiCard : Claim7 := { stood := { row := fnLgMultiRow, standIns := [], harness := (true, "f1c78c0eebaef3e01c959e22c91a2f08f28e3fda960cafc1c97606b87ac3c33c"), looks := true }, kinds := [], alts := [], laidByText := true, laidKinds := [.data], laidTests := true, laidLooks := .later }
def FnLgMultiCardSaid : Prop := Claim7.holds Tryz.pinned (.plain (OpenSpec.ofChange fnLgMultiSpec)) fnLgMultiCard

/-- THE TIED CARD OF 'laws.FnLgAsked'. -/
def fnLgAskedCard : Claim7 := { stood := { row := fnLgAskedRow, standIns := [], harness := (true, "f1c78c0eebaef3e01c959e22c91a2f08f28e3fda960cafc1c97606b87ac3c33c"), looks := true }, kinds := [], alts := [], laidByText := true, laidKinds := [.data], laidTests := true, laidLooks := .later }
def FnLgAskedCardSaid : Prop := Claim7.holds Tryz.pinned (.plain (OpenSpec.ofChange fnLgAskedSpec)) fnLgAskedCard

/-- THE TIED CARD OF 'laws.FnLgBelow'. -/
def fnLgBelowCard : Claim7 := { stood := { row := fnLgBelowRow, standIns := [], harness := (true, "f1c78c0eebaef3e01c959e22c91a2f08f28e3fda960cafc1c97606b87ac3c33c"), looks := true }, kinds := [], alts := [], laidByText := true, laidKinds := [.data], laidTests := true, laidLooks := .later }
def FnLgBelowCardSaid : Prop := Claim7.holds Tryz.pinned (.plain (OpenSpec.ofChange fnLgBelowSpec)) fnLgBelowCard

/-- THE TIED CARD OF 'laws.FnLgWays'. -/
def fnLgWaysCard : Claim7 := { stood := { row := fnLgWaysRow, standIns := [], harness := (true, "f1c78c0eebaef3e01c959e22c91a2f08f28e3fda960cafc1c97606b87ac3c33c"), looks := true }, kinds := [], alts := [], laidByText := true, laidKinds := [.data], laidTests := true, laidLooks := .later }
def FnLgWaysCardSaid : Prop := Claim7.holds Tryz.pinned (.plain (OpenSpec.ofChange fnLgWaysSpec)) fnLgWaysCard

/-- THE TIED CARD OF 'laws.FnVaStays'. -/
def fnVaStaysCard : Claim7 := { stood := { row := fnVaStaysRow, standIns := [], harness := (true, "f1c78c0eebaef3e01c959e22c91a2f08f28e3fda960cafc1c97606b87ac3c33c"), looks := true }, kinds := [], alts := [], laidByText := true, laidKinds := [.data, .data, .data, .data, .data, .pinned, .pinned], laidTests := true, laidLooks := .later }
def FnVaStaysCardSaid : Prop := Claim7.holds Tryz.pinned (.plain (OpenSpec.ofChange fnVaStaysSpec)) fnVaStaysCard

/-- THE SECOND FORM's CARD OF 'laws.FnRcArgs'. -/
def fnRcArgsUptoCard : Claim7 := { stood := { row := fnRcArgsUptoRow, standIns := [], harness := (true, "f1c78c0eebaef3e01c959e22c91a2f08f28e3fda960cafc1c97606b87ac3c33c"), looks := true }, kinds := [], alts := [], laidByText := true, laidKinds := [.data], laidTests := true, laidLooks := .later }
def FnRcArgsUptoCardSaid : Prop := Claim7.holds Tryz.pinned (.plain (OpenSpec.upto fnRcArgsSpec)) fnRcArgsUptoCard

/-- THE SECOND FORM's CARD OF 'laws.FnRcPairs'. -/
def fnRcPairsUptoCard : Claim7 := { stood := { row := fnRcPairsUptoRow, standIns := [], harness := (true, "f1c78c0eebaef3e01c959e22c91a2f08f28e3fda960cafc1c97606b87ac3c33c"), looks := true }, kinds := [], alts := [], laidByText := true, laidKinds := [.data], laidTests := true, laidLooks := .later }
def FnRcPairsUptoCardSaid : Prop := Claim7.holds Tryz.pinned (.plain (OpenSpec.upto fnRcPairsSpec)) fnRcPairsUptoCard

/-- THE SECOND FORM's CARD OF 'laws.FnRcPieces'. -/
def fnRcPiecesUptoCard : Claim7 := { stood := { row := fnRcPiecesUptoRow, standIns := [], harness := (true, "f1c78c0eebaef3e01c959e22c91a2f08f28e3fda960cafc1c97606b87ac3c33c"), looks := true }, kinds := [], alts := [], laidByText := true, laidKinds := [.data], laidTests := true, laidLooks := .later }
def FnRcPiecesUptoCardSaid : Prop := Claim7.holds Tryz.pinned (.plain (OpenSpec.upto fnRcPiecesSpec)) fnRcPiecesUptoCard

/-- THE SECOND FORM's CARD OF 'laws.FnRcClones'. -/
def fnRcClonesUptoCard : Claim7 := { stood := { row := fnRcClonesUptoRow, standIns := [], harness := (true, "f1c78c0eebaef3e01c959e22c91a2f08f28e3fda960cafc1c97606b87ac3c33c"), looks := true }, kinds := [], alts := [], laidByText := true, laidKinds := [.data, .data, .data, .data, .data, .pinned, .pinned], laidTests := true, laidLooks := .later }
def FnRcClonesUptoCardSaid : Prop := Claim7.holds Tryz.pinned (.plain (OpenSpec.upto fnRcClonesSpec)) fnRcClonesUptoCard

/-- THE SECOND FORM's CARD OF 'laws.FnRcRecords'. -/
def fnRcRecordsUptoCard : Claim7 := { stood := { row := fnRcRecordsUptoRow, standIns := [], harness := (true, "f1c78c0eebaef3e01c959e22c91a2f08f28e3fda960cafc1c97606b87ac3c33c"), looks := true }, kinds := [], alts := [], laidByText := true, laidKinds := [.data, .data, .data, .data, .data, .pinned, .pinned], laidTests := true, laidLooks := .later }
def FnRcRecordsUptoCardSaid : Prop := Claim7.holds Tryz.pinned (.plain (OpenSpec.upto fnRcRecordsSpec)) fnRcRecordsUptoCard

/-- THE SECOND FORM's CARD OF 'laws.FnRcSplit'. -/
def fnRcSplitUptoCard : Claim7 := { stood := { row := fnRcSplitUptoRow, standIns := [], harness := (true, "f1c78c0eebaef3e01c959e22c91a2f08f28e3fda960cafc1c97606b87ac3c33c"), looks := true }, kinds := [], alts := [], laidByText := true, laidKinds := [.data, .data, .data, .data, .data, .pinned, .pinned], laidTests := true, laidLooks := .later }
def FnRcSplitUptoCardSaid : Prop := Claim7.holds Tryz.pinned (.plain (OpenSpec.upto fnRcSplitSpec)) fnRcSplitUptoCard

/-- THE SECOND FORM's CARD OF 'laws.FnLgEach'. -/
def fnLgEachUptoCard : Claim7 := { stood := { row := fnLgEachUptoRow, standIns := [], harness := (true, "f1c78c0eebaef3e01c959e22c91a2f08f28e3fda960cafc1c97606b87ac3c33c"), looks := true }, kinds := [], alts := [], laidByText := true, laidKinds := [.data], laidTests := true, laidLooks := .later }
def FnLgEachUptoCardSaid : Prop := Claim7.holds Tryz.pinned (.plain (OpenSpec.upto fnLgEachSpec)) fnLgEachUptoCard

/-- THE SECOND FORM's CARD OF 'laws.FnLgMulti'. -/
def fnLgMultiUptoCard : Claim7 := { stood := { row := fnLgMultiUptoRow, standIns := [], harness := (true, "f1c78c0eebaef3e01c959e22c91a2f08f28e3fda960cafc1c97606b87ac3c33c"), looks := true }, kinds := [], alts := [], laidByText := true, laidKinds := [.data], laidTests := true, laidLooks := .later }
def FnLgMultiUptoCardSaid : Prop := Claim7.holds Tryz.pinned (.plain (OpenSpec.upto fnLgMultiSpec)) fnLgMultiUptoCard

/-- THE SECOND FORM's CARD OF 'laws.FnLgAsked'. -/
def fnLgAskedUptoCard : Claim7 := { stood := { row := fnLgAskedUptoRow, standIns := [], harness := (true, "f1c78c0eebaef3e01c959e22c91a2f08f28e3fda960cafc1c97606b87ac3c33c"), looks := true }, kinds := [], alts := [], laidByText := true, laidKinds := [.data], laidTests := true, laidLooks := .later }
def FnLgAskedUptoCardSaid : Prop := Claim7.holds Tryz.pinned (.plain (OpenSpec.upto fnLgAskedSpec)) fnLgAskedUptoCard

/-- THE SECOND FORM's CARD OF 'laws.FnLgBelow'. -/
def fnLgBelowUptoCard : Claim7 := { stood := { row := fnLgBelowUptoRow, standIns := [], harness := (true, "f1c78c0eebaef3e01c959e22c91a2f08f28e3fda960cafc1c97606b87ac3c33c"), looks := true }, kinds := [], alts := [], laidByText := true, laidKinds := [.data], laidTests := true, laidLooks := .later }
def FnLgBelowUptoCardSaid : Prop := Claim7.holds Tryz.pinned (.plain (OpenSpec.upto fnLgBelowSpec)) fnLgBelowUptoCard

/-- THE SECOND FORM's CARD OF 'laws.FnLgWays'. -/
def fnLgWaysUptoCard : Claim7 := { stood := { row := fnLgWaysUptoRow, standIns := [], harness := (true, "f1c78c0eebaef3e01c959e22c91a2f08f28e3fda960cafc1c97606b87ac3c33c"), looks := true }, kinds := [], alts := [], laidByText := true, laidKinds := [.data], laidTests := true, laidLooks := .later }
def FnLgWaysUptoCardSaid : Prop := Claim7.holds Tryz.pinned (.plain (OpenSpec.upto fnLgWaysSpec)) fnLgWaysUptoCard

/-- THE SECOND FORM's CARD OF 'laws.FnVaStays'. -/
def fnVaStaysUptoCard : Claim7 := { stood := { row := fnVaStaysUptoRow, standIns := [], harness := (true, "f1c78c0eebaef3e01c959e22c91a2f08f28e3fda960cafc1c97606b87ac3c33c"), looks := true }, kinds := [], alts := [], laidByText := true, laidKinds := [.data, .data, .data, .data, .data, .pinned, .pinned], laidTests := true, laidLooks := .later }
def FnVaStaysUptoCardSaid : Prop := Claim7.holds Tryz.pinned (.plain (OpenSpec.upto fnVaStaysSpec)) fnVaStaysUptoCard
end Rows
end Go.Proofs.YtihhgnbgejjijaaGreatDoor

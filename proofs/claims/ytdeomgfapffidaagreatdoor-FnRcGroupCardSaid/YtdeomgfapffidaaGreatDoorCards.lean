/-
  DERIVED. GIVEN WITH THE SEED: THE CARDS: each row of YtdeomgfapffidaaGreatDoorRows.lean that lists a variable, with what it lists TIED to the program's text (the seventh form; the later family's looks); each row that meets fmt, with fmt's text TOLD by the authors' own Lean function (tested against real Go, not proved from fmt's source: count such statements apart). THE CARD IS WHAT COUNTS. Prove the row's statement (the work); the ties are given (YtdeomgfapffidaaGreatDoorTie.lean); close each card by the builder's one call (the guide's Derived/Test/ToyasCard.lean, 'card_holds'). Laid BY PROGRAM, IN A SANDBOX (cutbox-door.mjs). By AI agents, Wed Nov 11 2026. No macro, syntax, notation, axiom, sorry.
-/
import Derived.Test.YtdeomgfapffidaaGreatDoorRows
import GoSem.ClaimSeven
namespace Go.Proofs.YtdeomgfapffidaaGreatDoor
namespace Rows

/-- THE TIED CARD OF 'laws.FnVaMade'. -/
def fnVaMadeCard : Claim7 := { stood := { row := fnVaMadeRow, standIns := [], harness := (true, "996e4a9c8e695466b7d708e487417370c569b71b2d5b4a089c07850548cdf546"), looks := true }, kinds := [], alts := [], laidByText := true, laidKinds := [.data, .data, .data, .data, .data, .pinned, .pinned], laidTests := true, laidLooks := .later }
def FnVaMadeCardSaid : Prop := Claim7.holds Tryz.pinned (.plain (OpenSpec.ofChange fnVaMadeSpec)) fnVaMadeCard

/-- THE TIED CARD OF 'laws.FnVaResolve'. -/
def fnVaResolveCard : Claim7 := { stood := { row := fnVaResolveRow, standIns := [], harness := (true, "996e4a9c8e695466b7d708e487417370c569b71b2d5b4a089c07850548cdf546"), looks := true }, kinds := [], alts := [], laidByText := true, laidKinds := [.data, .data, .data, .data, .data, .pinned, .pinned], laidTests := true, laidLooks := .later }
def FnVaResolveCardSaid : Prop := Claim7.holds Tryz.pinned (.plain (OpenSpec.ofChange fnVaResolveSpec)) fnVaResolveCard

/-- THE TIED CARD OF 'laws.FnVaResolved'. -/
def fnVaResolvedCard : Claim7 := { stood := { row := fnVaResolvedRow, standIns := [], harness := (true, "996e4a9c8e695466b7d708e487417370c569b71b2d5b4a089c07850548cdf546"), looks := true }, kinds := [], alts := [], laidByText := true, laidKinds := [.data, .data, .data, .data, .data, .pinned, .pinned], laidTests := true, laidLooks := .later }
def FnVaResolvedCardSaid : Prop := Claim7.holds Tryz.pinned (.plain (OpenSpec.ofChange fnVaResolvedSpec)) fnVaResolvedCard

/-- THE TIED CARD OF 'laws.FnVaAgain'. -/
def fnVaAgainCard : Claim7 := { stood := { row := fnVaAgainRow, standIns := [], harness := (true, "996e4a9c8e695466b7d708e487417370c569b71b2d5b4a089c07850548cdf546"), looks := true }, kinds := [], alts := [], laidByText := true, laidKinds := [.data, .data, .data, .data, .data, .pinned, .pinned], laidTests := true, laidLooks := .later }
def FnVaAgainCardSaid : Prop := Claim7.holds Tryz.pinned (.plain (OpenSpec.ofChange fnVaAgainSpec)) fnVaAgainCard

/-- THE TIED CARD OF 'laws.FnVaGroups'. -/
def fnVaGroupsCard : Claim7 := { stood := { row := fnVaGroupsRow, standIns := [], harness := (true, "996e4a9c8e695466b7d708e487417370c569b71b2d5b4a089c07850548cdf546"), looks := true }, kinds := [], alts := [], laidByText := true, laidKinds := [.data, .data, .data, .data, .data, .pinned, .pinned], laidTests := true, laidLooks := .later }
def FnVaGroupsCardSaid : Prop := Claim7.holds Tryz.pinned (.plain (OpenSpec.ofChange fnVaGroupsSpec)) fnVaGroupsCard

/-- THE TIED CARD OF 'laws.FnRcGroup'. -/
def fnRcGroupCard : Claim7 := { stood := { row := fnRcGroupRow, standIns := [], harness := (true, "996e4a9c8e695466b7d708e487417370c569b71b2d5b4a089c07850548cdf546"), looks := true }, kinds := [], alts := [], laidByText := true, laidKinds := [.data, .data, .data, .data, .data, .pinned, .pinned], laidTests := true, laidLooks := .later }
def FnRcGroupCardSaid : Prop := Claim7.holds Tryz.pinned (.plain (OpenSpec.ofChange fnRcGroupSpec)) fnRcGroupCard

/-- THE TIED CARD OF 'laws.FnRcArgs'. -/
def fnRcArgsCard : Claim7 := { stood := { row := fnRcArgsRow, standIns := [], harness := (true, "996e4a9c8e695466b7d708e487417370c569b71b2d5b4a089c07850548cdf546"), looks := true }, kinds := [], alts := [], laidByText := true, laidKinds := [.data], laidTests := true, laidLooks := .later }
def FnRcArgsCardSaid : Prop := Claim7.holds Tryz.pinned (.plain (OpenSpec.ofChange fnRcArgsSpec)) fnRcArgsCard

/-- THE TIED CARD OF 'laws.FnRcPairs'. -/
def fnRcPairsCard : Claim7 := { stood := { row := fnRcPairsRow, standIns := [], harness := (true, "996e4a9c8e695466b7d708e487417370c569b71b2d5b4a089c07850548cdf546"), looks := true }, kinds := [], alts := [], laidByText := true, laidKinds := [.data], laidTests := true, laidLooks := .later }
def FnRcPairsCardSaid : Prop := Claim7.holds Tryz.pinned (.plain (OpenSpec.ofChange fnRcPairsSpec)) fnRcPairsCard

/-- THE TIED CARD OF 'laws.FnRcPieces'. -/
def fnRcPiecesCard : Claim7 := { stood := { row := fnRcPiecesRow, standIns := [], harness := (true, "996e4a9c8e695466b7d708e487417370c569b71b2d5b4a089c07850548cdf546"), looks := true }, kinds := [], alts := [], laidByText := true, laidKinds := [.data], laidTests := true, laidLooks := .later }
def FnRcPiecesCardSaid : Prop := Claim7.holds Tryz.pinned (.plain (OpenSpec.ofChange fnRcPiecesSpec)) fnRcPiecesCard

/-- THE TIED CARD OF 'laws.FnRcClones'. -/
def fnRcClonesCard : Claim7 := { stood := { row := fnRcClonesRow, standIns := [], harness := (true, "996e4a9c8e695466b7d708e487417370c569b71b2d5b4a089c07850548cdf546"), looks := true }, kinds := [], alts := [], laidByText := true, laidKinds := [.data, .data, .data, .data, .data, .pinned, .pinned], laidTests := true, laidLooks := .later }
def FnRcClonesCardSaid : Prop := Claim7.holds Tryz.pinned (.plain (OpenSpec.ofChange fnRcClonesSpec)) fnRcClonesCard

/-- THE TIED CARD OF 'laws.FnRcRecords'. -/
def fnRcRecordsCard : Claim7 := { stood := { row := fnRcRecordsRow, standIns := [], harness := (true, "996e4a9c8e695466b7d708e487417370c569b71b2d5b4a089c07850548cdf546"), looks := true }, kinds := [], alts := [], laidByText := true, laidKinds := [.data, .data, .data, .data, .data, .pinned, .pinned], laidTests := true, laidLooks := .later }
def FnRcRecordsCardSaid : Prop := Claim7.holds Tryz.pinned (.plain (OpenSpec.ofChange fnRcRecordsSpec)) fnRcRecordsCard

/-- THE TIED CARD OF 'laws.FnRcSplit'. -/
def fnRcSplitCard : Claim7 := { stood := { row := fnRcSplitRow, standIns := [], harness := (true, "996e4a9c8e695466b7d708e487417370c569b71b2d5b4a089c07850548cdf546"), looks := true }, kinds := [], alts := [], laidByText := true, laidKinds := [.data, .data, .data, .data, .data, .pinned, .pinned], laidTests := true, laidLooks := .later }
def FnRcSplitCardSaid : Prop := Claim7.holds Tryz.pinned (.plain (OpenSpec.ofChange fnRcSplitSpec)) fnRcSplitCard

/-- THE SECOND FORM's CARD OF 'laws.FnVaMade'. -/
def fnVaMadeUptoCard : Claim7 := { stood := { row := fnVaMadeUptoRow, standIns := [], harness := (true, "996e4a9c8e695466b7d708e487417370c569b71b2d5b4a089c07850548cdf546"), looks := true }, kinds := [], alts := [], laidByText := true, laidKinds := [.data, .data, .data, .data, .data, .pinned, .pinned], laidTests := true, laidLooks := .later }
def FnVaMadeUptoCardSaid : Prop := Claim7.holds Tryz.pinned (.plain (OpenSpec.upto fnVaMadeSpec)) fnVaMadeUptoCard

/-- THE SECOND FORM's CARD OF 'laws.FnVaResolve'. -/
def fnVaResolveUptoCard : Claim7 := { stood := { row := fnVaResolveUptoRow, standIns := [], harness := (true, "996e4a9c8e695466b7d708e487417370c569b71b2d5b4a089c07850548cdf546"), looks := true }, kinds := [], alts := [], laidByText := true, laidKinds := [.data, .data, .data, .data, .data, .pinned, .pinned], laidTests := true, laidLooks := .later }
def FnVaResolveUptoCardSaid : Prop := Claim7.holds Tryz.pinned (.plain (OpenSpec.upto fnVaResolveSpec)) fnVaResolveUptoCard

/-- THE SECOND FORM's CARD OF 'laws.FnVaResolved'. -/
def fnVaResolvedUptoCard : Claim7 := { stood := { row := fnVaResolvedUptoRow, standIns := [], harness := (true, "996e4a9c8e695466b7d708e487417370c569b71b2d5b4a089c07850548cdf546"), looks := true }, kinds := [], alts := [], laidByText := true, laidKinds := [.data, .data, .data, .data, .data, .pinned, .pinned], laidTests := true, laidLooks := .later }
def FnVaResolvedUptoCardSaid : Prop := Claim7.holds Tryz.pinned (.plain (OpenSpec.upto fnVaResolvedSpec)) fnVaResolvedUptoCard

/-- THE SECOND FORM's CARD OF 'laws.FnVaAgain'. -/
def fnVaAgainUptoCard : Claim7 := { stood := { row := fnVaAgainUptoRow, standIns := [], harness := (true, "996e4a9c8e695466b7d708e487417370c569b71b2d5b4a089c07850548cdf546"), looks := true }, kinds := [], alts := [], laidByText := true, laidKinds := [.data, .data, .data, .data, .data, .pinned, .pinned], laidTests := true, laidLooks := .later }
def FnVaAgainUptoCardSaid : Prop := Claim7.holds Tryz.pinned (.plain (OpenSpec.upto fnVaAgainSpec)) fnVaAgainUptoCard

/-- THE SECOND FORM's CARD OF 'laws.FnVaGroups'. -/
def fnVaGroupsUptoCard : Claim7 := { stood := { row := fnVaGroupsUptoRow, standIns := [], harness := (true, "996e4a9c8e695466b7d708e487417370c569b71b2d5b4a089c07850548cdf546"), looks := true }, kinds := [], alts := [], laidByText := true, laidKinds := [.data, .data, .data, .data, .data, .pinned, .pinned], laidTests := true, laidLooks := .later }
def FnVaGroupsUptoCardSaid : Prop := Claim7.holds Tryz.pinned (.plain (OpenSpec.upto fnVaGroupsSpec)) fnVaGroupsUptoCard

/-- THE SECOND FORM's CARD OF 'laws.FnRcGroup'. -/
def fnRcGroupUptoCard : Claim7 := { stood := { row := fnRcGroupUptoRow, standIns := [], harness := (true, "996e4a9c8e695466b7d708e487417370c569b71b2d5b4a089c07850548cdf546"), looks := true }, kinds := [], alts := [], laidByText := true, laidKinds := [.data, .data, .data, .data, .data, .pinned, .pinned], laidTests := true, laidLooks := .later }
def FnRcGroupUptoCardSaid : Prop := Claim7.holds Tryz.pinned (.plain (OpenSpec.upto fnRcGroupSpec)) fnRcGroupUptoCard

/-- THE SECOND FORM's CARD OF 'laws.FnRcArgs'. -/
def fnRcArgsUptoCard : Claim7 := { stood := { row := fnRcArgsUptoRow, standIns := [], harness := (true, "996e4a9c8e695466b7d708e487417370c569b71b2d5b4a089c07850548cdf546"), looks := true }, kinds := [], alts := [], laidByText := true, laidKinds := [.data], laidTests := true, laidLooks := .later }
def FnRcArgsUptoCardSaid : Prop := Claim7.holds Tryz.pinned (.plain (OpenSpec.upto fnRcArgsSpec)) fnRcArgsUptoCard

/-- THE SECOND FORM's CARD OF 'laws.FnRcPairs'. -/
def fnRcPairsUptoCard : Claim7 := { stood := { row := fnRcPairsUptoRow, standIns := [], harness := (true, "996e4a9c8e695466b7d708e487417370c569b71b2d5b4a089c07850548cdf546"), looks := true }, kinds := [], alts := [], laidByText := true, laidKinds := [.data], laidTests := true, laidLooks := .later }
def FnRcPairsUptoCardSaid : Prop := Claim7.holds Tryz.pinned (.plain (OpenSpec.upto fnRcPairsSpec)) fnRcPairsUptoCard

/-- THE SECOND FORM's CARD OF 'laws.FnRcPieces'. -/
def fnRcPiecesUptoCard : Claim7 := { stood := { row := fnRcPiecesUptoRow, standIns := [], harness := (true, "996e4a9c8e695466b7d708e487417370c569b71b2d5b4a089c07850548cdf546"), looks := true }, kinds := [], alts := [], laidByText := true, laidKinds := [.data], laidTests := true, laidLooks := .later }
def FnRcPiecesUptoCardSaid : Prop := Claim7.holds Tryz.pinned (.plain (OpenSpec.upto fnRcPiecesSpec)) fnRcPiecesUptoCard

/-- THE SECOND FORM's CARD OF 'laws.FnRcClones'. -/
def fnRcClonesUptoCard : Claim7 := { stood := { row := fnRcClonesUptoRow, standIns := [], harness := (true, "996e4a9c8e695466b7d708e487417370c569b71b2d5b4a089c07850548cdf546"), looks := true }, kinds := [], alts := [], laidByText := true, laidKinds := [.data, .data, .data, .data, .data, .pinned, .pinned], laidTests := true, laidLooks := .later }
def FnRcClonesUptoCardSaid : Prop := Claim7.holds Tryz.pinned (.plain (OpenSpec.upto fnRcClonesSpec)) fnRcClonesUptoCard

/-- THE SECOND FORM's CARD OF 'laws.FnRcRecords'. -/
def fnRcRecordsUptoCard : Claim7 := { stood := { row := fnRcRecordsUptoRow, standIns := [], harness := (true, "996e4a9c8e695466b7d708e487417370c569b71b2d5b4a089c07850548cdf546"), looks := true }, kinds := [], alts := [], laidByText := true, laidKinds := [.data, .data, .data, .data, .data, .pinned, .pinned], laidTests := true, laidLooks := .later }
def FnRcRecordsUptoCardSaid : Prop := Claim7.holds Tryz.pinned (.plain (OpenSpec.upto fnRcRecordsSpec)) fnRcRecordsUptoCard

/-- THE SECOND FORM's CARD OF 'laws.FnRcSplit'. -/
def fnRcSplitUptoCard : Claim7 := { stood := { row := fnRcSplitUptoRow, standIns := [], harness := (true, "996e4a9c8e695466b7d708e487417370c569b71b2d5b4a089c07850548cdf546"), looks := true }, kinds := [], alts := [], laidByText := true, laidKinds := [.data, .data, .data, .data, .data, .pinned, .pinned], laidTests := true, laidLooks := .later }
def FnRcSplitUptoCardSaid : Prop := Claim7.holds Tryz.pinned (.plain (OpenSpec.upto fnRcSplitSpec)) fnRcSplitUptoCard
end Rows
end Go.Proofs.YtdeomgfapffidaaGreatDoor

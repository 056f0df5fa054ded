/-
  DERIVED. GIVEN WITH THE SEED: THE CARDS: each row of YtngddccmkhghiaaDoorRows.lean that lists a variable, with what it lists TIED to the program's text (the seventh form; the later family's looks); each row that meets fmt, with fmt's text TOLD by the authors' own Lean function (tested against real Go, not proved from fmt's source: count such statements apart). THE CARD IS WHAT COUNTS. Prove the row's statement (the work); the ties are given (YtngddccmkhghiaaDoorTie.lean); close each card by the builder's one call (the guide's Derived/Test/ToyasCard.lean, 'card_holds'). Laid BY PROGRAM, IN A SANDBOX (cutbox-door.mjs). By AI agents, Wed Nov 11 2026. No macro, syntax, notation, axiom, sorry.
-/
import Derived.Test.YtngddccmkhghiaaDoorRows
import GoSem.ClaimSeven
namespace Go.Proofs.YtngddccmkhghiaaDoor
namespace Rows

/-- THE TIED CARD OF 'laws.FnVaKindName'. -/
def fnVaKindNameCard : Claim7 := { stood := { row := fnVaKindNameRow, standIns := [], harness := (true, "d1418c3f38be9fe6f122771c5d978cce8b04c3feb8b8c8c046b0ce490cc85ab3"), looks := false }, kinds := [], alts := [], laidByText := true, laidKinds := [.data], laidTests := true, laidLooks := .later }
def FnVaKindNameCardSaid : Prop := Claim7.holds Tryd.pinned (.plain (OpenSpec.ofChange fnVaKindNameSpec)) fnVaKindNameCard

/-- THE TIED CARD OF 'laws.FnJsEscaped'. -/
def fnJsEscapedCard : Claim7 := { stood := { row := fnJsEscapedRow, standIns := [], harness := (true, "d1418c3f38be9fe6f122771c5d978cce8b04c3feb8b8c8c046b0ce490cc85ab3"), looks := false }, kinds := [], alts := [], laidByText := true, laidKinds := [.data, .data, .pinned], laidTests := true, laidLooks := .later }
def FnJsEscapedCardSaid : Prop := Claim7.holds Tryd.pinned (.plain (OpenSpec.ofChange fnJsEscapedSpec)) fnJsEscapedCard

/-- THE TIED CARD OF 'laws.FnJsEscapedBack'. -/
def fnJsEscapedBackCard : Claim7 := { stood := { row := fnJsEscapedBackRow, standIns := [], harness := (true, "d1418c3f38be9fe6f122771c5d978cce8b04c3feb8b8c8c046b0ce490cc85ab3"), looks := false }, kinds := [], alts := [], laidByText := true, laidKinds := [.data, .data, .pinned], laidTests := true, laidLooks := .later }
def FnJsEscapedBackCardSaid : Prop := Claim7.holds Tryd.pinned (.plain (OpenSpec.ofChange fnJsEscapedBackSpec)) fnJsEscapedBackCard

/-- THE SECOND FORM's CARD OF 'laws.FnVaKindName'. -/
def fnVaKindNameUptoCard : Claim7 := { stood := { row := fnVaKindNameUptoRow, standIns := [], harness := (true, "d1418c3f38be9fe6f122771c5d978cce8b04c3feb8b8c8c046b0ce490cc85ab3"), looks := false }, kinds := [], alts := [], laidByText := true, laidKinds := [.data], laidTests := true, laidLooks := .later }
def FnVaKindNameUptoCardSaid : Prop := Claim7.holds Tryd.pinned (.plain (OpenSpec.upto fnVaKindNameSpec)) fnVaKindNameUptoCard

/-- THE SECOND FORM's CARD OF 'laws.FnJsEscaped'. -/
def fnJsEscapedUptoCard : Claim7 := { stood := { row := fnJsEscapedUptoRow, standIns := [], harness := (true, "d1418c3f38be9fe6f122771c5d978cce8b04c3feb8b8c8c046b0ce490cc85ab3"), looks := false }, kinds := [], alts := [], laidByText := true, laidKinds := [.data, .data, .pinned], laidTests := true, laidLooks := .later }
def FnJsEscapedUptoCardSaid : Prop := Claim7.holds Tryd.pinned (.plain (OpenSpec.upto fnJsEscapedSpec)) fnJsEscapedUptoCard

/-- THE SECOND FORM's CARD OF 'laws.FnJsEscapedBack'. -/
def fnJsEscapedBackUptoCard : Claim7 := { stood := { row := fnJsEscapedBackUptoRow, standIns := [], harness := (true, "d1418c3f38be9fe6f122771c5d978cce8b04c3feb8b8c8c046b0ce490cc85ab3"), looks := false }, kinds := [], alts := [], laidByText := true, laidKinds := [.data, .data, .pinned], laidTests := true, laidLooks := .later }
def FnJsEscapedBackUptoCardSaid : Prop := Claim7.holds Tryd.pinned (.plain (OpenSpec.upto fnJsEscapedBackSpec)) fnJsEscapedBackUptoCard
end Rows
end Go.Proofs.YtngddccmkhghiaaDoor

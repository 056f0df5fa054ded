/-
  DERIVED. GIVEN WITH THE SEED: THE CARDS: each row of YtconeignnananaaDoorRows.lean that lists a variable, with what it lists TIED to the program's text (the seventh form; the later family's looks); each row that meets fmt, with fmt's text TOLD by the authors' own Lean function (tested against real Go, not proved from fmt's source: count such statements apart). THE CARD IS WHAT COUNTS. Prove the row's statement (the work); the ties are given (YtconeignnananaaDoorTie.lean); close each card by the builder's one call (the guide's Derived/Test/ToyasCard.lean, 'card_holds'). Laid BY PROGRAM, IN A SANDBOX (cutbox-door.mjs). By AI agents, Wed Nov 11 2026. No macro, syntax, notation, axiom, sorry.
-/
import Derived.Test.YtconeignnananaaDoorRows
import GoSem.ClaimSeven
namespace Go.Proofs.YtconeignnananaaDoor
namespace Rows

/-- THE TIED CARD OF 'laws.FnLvOffset'. -/
def fnLvOffsetCard : Claim7 := { stood := { row := fnLvOffsetRow, standIns := [], harness := (true, "d9f177f533fee60afbeaaebeb7f41ca3d323d948cffb8416b2be422bf214685b"), looks := true }, kinds := [], alts := [], laidByText := true, laidKinds := [.data, .data, .data, .data, .sentinel, .sentinel, .pinned, .pinned, .pinned, .pinned, .pinned, .pinned, .pinned], laidTests := true, laidLooks := .later }
def FnLvOffsetCardSaid : Prop := Claim7.holds Tryd.pinned (.plain (OpenSpec.ofChange fnLvOffsetSpec)) fnLvOffsetCard

/-- THE TIED CARD OF 'laws.FnLvName'. -/
def fnLvNameCard : Claim7 := { stood := { row := fnLvNameRow, standIns := [], harness := (true, "d9f177f533fee60afbeaaebeb7f41ca3d323d948cffb8416b2be422bf214685b"), looks := true }, kinds := [], alts := [], laidByText := true, laidKinds := [.data, .data, .data, .data, .pinned, .pinned, .pinned, .pinned, .pinned, .pinned], laidTests := true, laidLooks := .later }
def FnLvNameCardSaid : Prop := Claim7.holds Tryd.pinned (.plain (OpenSpec.ofChange fnLvNameSpec)) fnLvNameCard

/-- THE TIED CARD OF 'laws.FnLvBack'. -/
def fnLvBackCard : Claim7 := { stood := { row := fnLvBackRow, standIns := [], harness := (true, "d9f177f533fee60afbeaaebeb7f41ca3d323d948cffb8416b2be422bf214685b"), looks := true }, kinds := [], alts := [], laidByText := true, laidKinds := [.data, .data, .data, .data, .sentinel, .sentinel, .pinned, .pinned, .pinned, .pinned, .pinned, .pinned, .pinned], laidTests := true, laidLooks := .later }
def FnLvBackCardSaid : Prop := Claim7.holds Tryd.pinned (.plain (OpenSpec.ofChange fnLvBackSpec)) fnLvBackCard

/-- THE TIED CARD OF 'laws.FnLvParse'. -/
def fnLvParseCard : Claim7 := { stood := { row := fnLvParseRow, standIns := [], harness := (true, "d9f177f533fee60afbeaaebeb7f41ca3d323d948cffb8416b2be422bf214685b"), looks := true }, kinds := [], alts := [], laidByText := true, laidKinds := [.data, .data, .data, .data, .sentinel, .sentinel, .pinned, .pinned, .pinned, .pinned, .pinned, .pinned, .pinned], laidTests := true, laidLooks := .later }
def FnLvParseCardSaid : Prop := Claim7.holds Tryd.pinned (.plain (OpenSpec.ofChange fnLvParseSpec)) fnLvParseCard

/-- THE TIED CARD OF 'laws.FnLvVar'. -/
def fnLvVarCard : Claim7 := { stood := { row := fnLvVarRow, standIns := [], harness := (true, "d9f177f533fee60afbeaaebeb7f41ca3d323d948cffb8416b2be422bf214685b"), looks := true }, kinds := [], alts := [], laidByText := true, laidKinds := [.data, .data, .data, .data, .sentinel, .sentinel, .pinned, .pinned, .pinned, .pinned, .pinned, .pinned, .pinned], laidTests := true, laidLooks := .later }
def FnLvVarCardSaid : Prop := Claim7.holds Tryd.pinned (.plain (OpenSpec.ofChange fnLvVarSpec)) fnLvVarCard

/-- THE TIED CARD OF 'laws.FnLvParseJSON'. -/
def fnLvParseJSONCard : Claim7 := { stood := { row := fnLvParseJSONRow, standIns := [], harness := (true, "d9f177f533fee60afbeaaebeb7f41ca3d323d948cffb8416b2be422bf214685b"), looks := true }, kinds := [], alts := [], laidByText := true, laidKinds := [.data, .data, .data, .data, .sentinel, .sentinel, .pinned, .pinned, .pinned, .pinned, .pinned, .pinned, .pinned], laidTests := true, laidLooks := .later }
def FnLvParseJSONCardSaid : Prop := Claim7.holds Tryd.pinned (.plain (OpenSpec.ofChange fnLvParseJSONSpec)) fnLvParseJSONCard

/-- THE SECOND FORM's CARD OF 'laws.FnLvOffset'. -/
def fnLvOffsetUptoCard : Claim7 := { stood := { row := fnLvOffsetUptoRow, standIns := [], harness := (true, "d9f177f533fee60afbeaaebeb7f41ca3d323d948cffb8416b2be422bf214685b"), looks := true }, kinds := [], alts := [], laidByText := true, laidKinds := [.data, .data, .data, .data, .sentinel, .sentinel, .pinned, .pinned, .pinned, .pinned, .pinned, .pinned, .pinned], laidTests := true, laidLooks := .later }
def FnLvOffsetUptoCardSaid : Prop := Claim7.holds Tryd.pinned (.plain (OpenSpec.upto fnLvOffsetSpec)) fnLvOffsetUptoCard

/-- THE SECOND FORM's CARD OF 'laws.FnLvName'. -/
def fnLvNameUptoCard : Claim7 := { stood := { row := fnLvNameUptoRow, standIns := [], harness := (true, "d9f177f533fee60afbeaaebeb7f41ca3d323d948cffb8416b2be422bf214685b"), looks := true }, kinds := [], alts := [], laidByText := true, laidKinds := [.data, .data, .data, .data, .pinned, .pinned, .pinned, .pinned, .pinned, .pinned], laidTests := true, laidLooks := .later }
def FnLvNameUptoCardSaid : Prop := Claim7.holds Tryd.pinned (.plain (OpenSpec.upto fnLvNameSpec)) fnLvNameUptoCard

/-- THE SECOND FORM's CARD OF 'laws.FnLvBack'. -/
def fnLvBackUptoCard : Claim7 := { stood := { row := fnLvBackUptoRow, standIns := [], harness := (true, "d9f177f533fee60afbeaaebeb7f41ca3d323d948cffb8416b2be422bf214685b"), looks := true }, kinds := [], alts := [], laidByText := true, laidKinds := [.data, .data, .data, .data, .sentinel, .sentinel, .pinned, .pinned, .pinned, .pinned, .pinned, .pinned, .pinned], laidTests := true, laidLooks := .later }
def FnLvBackUptoCardSaid : Prop := Claim7.holds Tryd.pinned (.plain (OpenSpec.upto fnLvBackSpec)) fnLvBackUptoCard

/-- THE SECOND FORM's CARD OF 'laws.FnLvParse'. -/
def fnLvParseUptoCard : Claim7 := { stood := { row := fnLvParseUptoRow, standIns := [], harness := (true, "d9f177f533fee60afbeaaebeb7f41ca3d323d948cffb8416b2be422bf214685b"), looks := true }, kinds := [], alts := [], laidByText := true, laidKinds := [.data, .data, .data, .data, .sentinel, .sentinel, .pinned, .pinned, .pinned, .pinned, .pinned, .pinned, .pinned], laidTests := true, laidLooks := .later }
def FnLvParseUptoCardSaid : Prop := Claim7.holds Tryd.pinned (.plain (OpenSpec.upto fnLvParseSpec)) fnLvParseUptoCard

/-- THE SECOND FORM's CARD OF 'laws.FnLvVar'. -/
def fnLvVarUptoCard : Claim7 := { stood := { row := fnLvVarUptoRow, standIns := [], harness := (true, "d9f177f533fee60afbeaaebeb7f41ca3d323d948cffb8416b2be422bf214685b"), looks := true }, kinds := [], alts := [], laidByText := true, laidKinds := [.data, .data, .data, .data, .sentinel, .sentinel, .pinned, .pinned, .pinned, .pinned, .pinned, .pinned, .pinned], laidTests := true, laidLooks := .later }
def FnLvVarUptoCardSaid : Prop := Claim7.holds Tryd.pinned (.plain (OpenSpec.upto fnLvVarSpec)) fnLvVarUptoCard

/-- THE SECOND FORM's CARD OF 'laws.FnLvParseJSON'. -/
def fnLvParseJSONUptoCard : Claim7 := { stood := { row := fnLvParseJSONUptoRow, standIns := [], harness := (true, "d9f177f533fee60afbeaaebeb7f41ca3d323d948cffb8416b2be422bf214685b"), looks := true }, kinds := [], alts := [], laidByText := true, laidKinds := [.data, .data, .data, .data, .sentinel, .sentinel, .pinned, .pinned, .pinned, .pinned, .pinned, .pinned, .pinned], laidTests := true, laidLooks := .later }
def FnLvParseJSONUptoCardSaid : Prop := Claim7.holds Tryd.pinned (.plain (OpenSpec.upto fnLvParseJSONSpec)) fnLvParseJSONUptoCard
end Rows
end Go.Proofs.YtconeignnananaaDoor

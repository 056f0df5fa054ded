/-
  DERIVED. GIVEN WITH THE SEED: THE CARDS: each row of YtcgdnjigocknbaaDoorRows.lean that lists a variable, with what it lists TIED to the program's text (the seventh form; the later family's looks); each row that meets fmt, with fmt's text TOLD by the authors' own Lean function (tested against real Go, not proved from fmt's source: count such statements apart). THE CARD IS WHAT COUNTS. Prove the row's statement (the work); the ties are given (YtcgdnjigocknbaaDoorTie.lean); close each card by the builder's one call (the guide's Derived/Test/ToyasCard.lean, 'card_holds'). Laid BY PROGRAM, IN A SANDBOX (cutbox-door.mjs). By AI agents, Wed Nov 11 2026. No macro, syntax, notation, axiom, sorry.
-/
import Derived.Test.YtcgdnjigocknbaaDoorRows
import GoSem.ClaimSeven
namespace Go.Proofs.YtcgdnjigocknbaaDoor
namespace Rows

/-- THE TIED CARD OF 'laws.FnVaEqual'. -/
def fnVaEqualCard : Claim7 := { stood := { row := fnVaEqualRow, standIns := [], harness := (true, "764a7dd1cc3c795c1f44454acae30fc68d30ced08f098829a21acb98a3dd9f67"), looks := true }, kinds := [], alts := [], laidByText := true, laidKinds := [.data], laidTests := true, laidLooks := .later }
def FnVaEqualCardSaid : Prop := Claim7.holds Tryd.pinned (.plain (OpenSpec.ofChange fnVaEqualSpec)) fnVaEqualCard

/-- THE TIED CARD OF 'laws.FnVaEqualAll'. -/
def fnVaEqualAllCard : Claim7 := { stood := { row := fnVaEqualAllRow, standIns := [], harness := (true, "764a7dd1cc3c795c1f44454acae30fc68d30ced08f098829a21acb98a3dd9f67"), looks := true }, kinds := [], alts := [], laidByText := true, laidKinds := [.data], laidTests := true, laidLooks := .later }
def FnVaEqualAllCardSaid : Prop := Claim7.holds Tryd.pinned (.plain (OpenSpec.ofChange fnVaEqualAllSpec)) fnVaEqualAllCard

/-- THE TIED CARD OF 'laws.FnVaAttrEqual'. -/
def fnVaAttrEqualCard : Claim7 := { stood := { row := fnVaAttrEqualRow, standIns := [], harness := (true, "764a7dd1cc3c795c1f44454acae30fc68d30ced08f098829a21acb98a3dd9f67"), looks := true }, kinds := [], alts := [], laidByText := true, laidKinds := [.data], laidTests := true, laidLooks := .later }
def FnVaAttrEqualCardSaid : Prop := Claim7.holds Tryd.pinned (.plain (OpenSpec.ofChange fnVaAttrEqualSpec)) fnVaAttrEqualCard

/-- THE TIED CARD OF 'laws.FnVaPanics'. -/
def fnVaPanicsCard : Claim7 := { stood := { row := fnVaPanicsRow, standIns := [], harness := (true, "764a7dd1cc3c795c1f44454acae30fc68d30ced08f098829a21acb98a3dd9f67"), looks := true }, kinds := [], alts := [], laidByText := true, laidKinds := [.data], laidTests := true, laidLooks := .later }
def FnVaPanicsCardSaid : Prop := Claim7.holds Tryd.pinned (.plain (OpenSpec.ofChange fnVaPanicsSpec)) fnVaPanicsCard

/-- THE SECOND FORM's CARD OF 'laws.FnVaEqual'. -/
def fnVaEqualUptoCard : Claim7 := { stood := { row := fnVaEqualUptoRow, standIns := [], harness := (true, "764a7dd1cc3c795c1f44454acae30fc68d30ced08f098829a21acb98a3dd9f67"), looks := true }, kinds := [], alts := [], laidByText := true, laidKinds := [.data], laidTests := true, laidLooks := .later }
def FnVaEqualUptoCardSaid : Prop := Claim7.holds Tryd.pinned (.plain (OpenSpec.upto fnVaEqualSpec)) fnVaEqualUptoCard

/-- THE SECOND FORM's CARD OF 'laws.FnVaEqualAll'. -/
def fnVaEqualAllUptoCard : Claim7 := { stood := { row := fnVaEqualAllUptoRow, standIns := [], harness := (true, "764a7dd1cc3c795c1f44454acae30fc68d30ced08f098829a21acb98a3dd9f67"), looks := true }, kinds := [], alts := [], laidByText := true, laidKinds := [.data], laidTests := true, laidLooks := .later }
def FnVaEqualAllUptoCardSaid : Prop := Claim7.holds Tryd.pinned (.plain (OpenSpec.upto fnVaEqualAllSpec)) fnVaEqualAllUptoCard

/-- THE SECOND FORM's CARD OF 'laws.FnVaAttrEqual'. -/
def fnVaAttrEqualUptoCard : Claim7 := { stood := { row := fnVaAttrEqualUptoRow, standIns := [], harness := (true, "764a7dd1cc3c795c1f44454acae30fc68d30ced08f098829a21acb98a3dd9f67"), looks := true }, kinds := [], alts := [], laidByText := true, laidKinds := [.data], laidTests := true, laidLooks := .later }
def FnVaAttrEqualUptoCardSaid : Prop := Claim7.holds Tryd.pinned (.plain (OpenSpec.upto fnVaAttrEqualSpec)) fnVaAttrEqualUptoCard

/-- THE SECOND FORM's CARD OF 'laws.FnVaPanics'. -/
def fnVaPanicsUptoCard : Claim7 := { stood := { row := fnVaPanicsUptoRow, standIns := [], harness := (true, "764a7dd1cc3c795c1f44454acae30fc68d30ced08f098829a21acb98a3dd9f67"), looks := true }, kinds := [], alts := [], laidByText := true, laidKinds := [.data], laidTests := true, laidLooks := .later }
def FnVaPanicsUptoCardSaid : Prop := Claim7.holds Tryd.pinned (.plain (OpenSpec.upto fnVaPanicsSpec)) fnVaPanicsUptoCard
end Rows
end Go.Proofs.YtcgdnjigocknbaaDoor

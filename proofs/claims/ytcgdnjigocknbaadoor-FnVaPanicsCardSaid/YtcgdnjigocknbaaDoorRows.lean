/-
  NARROWER THAN 'FOR EVERY INPUT', by the rows' own cells (each row's printed sentence says how): FnVaEqual: loops, laid · FnVaEqualAll: loops, laid · FnVaAttrEqual: loops, laid · FnVaPanics: loops, laid.
  DERIVED. THE GIVEN ROWS OF THIS SEAT. 4 by the template 'for every input the law returns true; each argument reads behind the call as it read before'; 0 by the template 'total and deterministic' (their statements: YtcgdnjigocknbaaDoorTotals.lean).
  GIVEN WITH THE SEED: the statements are not yours to turn. If you find one false, say at which input.
  Laid BY PROGRAM, IN A SANDBOX (cutbox-rows.mjs): the forced cells as the released guide's own fill.sh prints them over the translation e7468eb6e0dfe304… (all of the seat's roots in one cut). By AI agents, Wed Nov 11 2026. No macro, syntax, notation, axiom, sorry.
-/
import Derived.Test.YtcgdnjigocknbaaDoorChecked
import GoSem.Claim
import GoSem.ClaimJoined
import GoSem.ClaimMapViews
import Derived.JoinedTies
import Derived.KernelRfl
namespace Go.Proofs.YtcgdnjigocknbaaDoor
/- THE CELL 'sum', in the pinned program and in every row, IS THE sha256 OF THE DUMP (.gsa) THAT YtcgdnjigocknbaaDoorProg.lean LOADS. Nothing in Lean hashes anything: it is a label: what it is worth is what the hold of that sum in a sandbox is worth. -/
noncomputable def Tryd.pinned : Pinned := { name := "ytcgdnjigocknbaadoor", sum := "e7468eb6e0dfe304f8ceb914f35901ba449ddec88b292f1f956ad3d058965e82", checked := Tryd.checked }
namespace Rows
def none {H : Type} : Left H := { results := [], args := [] }

/- WHAT THE LISTED PACKAGE-LEVEL VARIABLES READ AS WHEN THE CALL BEGINS. Each datum BY PROGRAM (the guide's laid-datum.mjs) off the statement by which the dump's own 'gosem.cut.vars' lays the variable. In a bare row this is a premise. The card (YtcgdnjigocknbaaDoorCards.lean) ties it to the program's text. -/
def laid_pub_jottings_pub_slog_kindStrings {H : Type} : DataW H := .agg [.lit (.string [65, 110, 121]), .lit (.string [66, 111, 111, 108]), .lit (.string [68, 117, 114, 97, 116, 105, 111, 110]), .lit (.string [70, 108, 111, 97, 116, 54, 52]), .lit (.string [73, 110, 116, 54, 52]), .lit (.string [83, 116, 114, 105, 110, 103]), .lit (.string [84, 105, 109, 101]), .lit (.string [85, 105, 110, 116, 54, 52]), .lit (.string [71, 114, 111, 117, 112]), .lit (.string [76, 111, 103, 86, 97, 108, 117, 101, 114])]

/-- 'laws.FnVaEqual': WHATEVER THE INPUT: true; the input reads as it did. -/
def fnVaEqualSpec : ChangeSpec := { name := "fnVaEqual", fn := fun _ => fun
  | [d1, d2] => { results := [.lit (.bool true)], args := [d1, d2] }
  | _ => none }
def fnVaEqualRow : OpenClaim := { program := "ytcgdnjigocknbaadoor", sum := "e7468eb6e0dfe304f8ceb914f35901ba449ddec88b292f1f956ad3d058965e82", func := "pub-jottings/laws.FnVaEqual", spec := "fnVaEqual", inPlace := ["math.Float64frombits", "math.Float64bits"], unfollowed := true, recurses := true, named := ["pub-jottings/pub/slog.kindStrings"], loops := true, apart := false, laid := [("pub-jottings/pub/slog.kindStrings", laid_pub_jottings_pub_slog_kindStrings)] }
def FnVaEqualSaid : Prop := fnVaEqualRow.holds Tryd.pinned (OpenSpec.ofChange fnVaEqualSpec)

/-- ITS FALSE NEIGHBOUR: 'it returns false'. Refute it at one input. -/
def fnVaEqualWrong : ChangeSpec := { name := "fnVaEqual", fn := fun _ => fun
  | [d1, d2] => { results := [.lit (.bool false)], args := [d1, d2] }
  | _ => none }
def FnVaEqualWrongFalsely : Prop := fnVaEqualRow.holds Tryd.pinned (OpenSpec.ofChange fnVaEqualWrong)

/-- 'laws.FnVaEqualAll': WHATEVER THE INPUT: true; the input reads as it did. -/
def fnVaEqualAllSpec : ChangeSpec := { name := "fnVaEqualAll", fn := fun _ => fun
  | [d1, d2, d3] => { results := [.lit (.bool true)], args := [d1, d2, d3] }
  | _ => none }
def fnVaEqualAllRow : OpenClaim := { program := "ytcgdnjigocknbaadoor", sum := "e7468eb6e0dfe304f8ceb914f35901ba449ddec88b292f1f956ad3d058965e82", func := "pub-jottings/laws.FnVaEqualAll", spec := "fnVaEqualAll", inPlace := ["math.Float64frombits", "math.Float64bits"], unfollowed := true, recurses := true, named := ["pub-jottings/pub/slog.kindStrings"], loops := true, apart := false, laid := [("pub-jottings/pub/slog.kindStrings", laid_pub_jottings_pub_slog_kindStrings)] }
def FnVaEqualAllSaid : Prop := fnVaEqualAllRow.holds Tryd.pinned (OpenSpec.ofChange fnVaEqualAllSpec)

/-- ITS FALSE NEIGHBOUR: 'it returns false'. Refute it at one input. -/
def fnVaEqualAllWrong : ChangeSpec := { name := "fnVaEqualAll", fn := fun _ => fun
  | [d1, d2, d3] => { results := [.lit (.bool false)], args := [d1, d2, d3] }
  | _ => none }
def FnVaEqualAllWrongFalsely : Prop := fnVaEqualAllRow.holds Tryd.pinned (OpenSpec.ofChange fnVaEqualAllWrong)

/-- 'laws.FnVaAttrEqual': WHATEVER THE INPUT: true; the input reads as it did. -/
def fnVaAttrEqualSpec : ChangeSpec := { name := "fnVaAttrEqual", fn := fun _ => fun
  | [d1, d2] => { results := [.lit (.bool true)], args := [d1, d2] }
  | _ => none }
def fnVaAttrEqualRow : OpenClaim := { program := "ytcgdnjigocknbaadoor", sum := "e7468eb6e0dfe304f8ceb914f35901ba449ddec88b292f1f956ad3d058965e82", func := "pub-jottings/laws.FnVaAttrEqual", spec := "fnVaAttrEqual", inPlace := ["math.Float64frombits", "math.Float64bits"], unfollowed := true, recurses := true, named := ["pub-jottings/pub/slog.kindStrings"], loops := true, apart := false, laid := [("pub-jottings/pub/slog.kindStrings", laid_pub_jottings_pub_slog_kindStrings)] }
def FnVaAttrEqualSaid : Prop := fnVaAttrEqualRow.holds Tryd.pinned (OpenSpec.ofChange fnVaAttrEqualSpec)

/-- ITS FALSE NEIGHBOUR: 'it returns false'. Refute it at one input. -/
def fnVaAttrEqualWrong : ChangeSpec := { name := "fnVaAttrEqual", fn := fun _ => fun
  | [d1, d2] => { results := [.lit (.bool false)], args := [d1, d2] }
  | _ => none }
def FnVaAttrEqualWrongFalsely : Prop := fnVaAttrEqualRow.holds Tryd.pinned (OpenSpec.ofChange fnVaAttrEqualWrong)

/-- 'laws.FnVaPanics': WHATEVER THE INPUT: true; the input reads as it did. -/
def fnVaPanicsSpec : ChangeSpec := { name := "fnVaPanics", fn := fun _ => fun
  | [d1, d2] => { results := [.lit (.bool true)], args := [d1, d2] }
  | _ => none }
def fnVaPanicsRow : OpenClaim := { program := "ytcgdnjigocknbaadoor", sum := "e7468eb6e0dfe304f8ceb914f35901ba449ddec88b292f1f956ad3d058965e82", func := "pub-jottings/laws.FnVaPanics", spec := "fnVaPanics", inPlace := ["math.Float64frombits", "math.Float64bits"], unfollowed := true, recurses := true, named := ["pub-jottings/pub/slog.kindStrings"], loops := true, apart := false, laid := [("pub-jottings/pub/slog.kindStrings", laid_pub_jottings_pub_slog_kindStrings)] }
def FnVaPanicsSaid : Prop := fnVaPanicsRow.holds Tryd.pinned (OpenSpec.ofChange fnVaPanicsSpec)

/-- ITS FALSE NEIGHBOUR: 'it returns false'. Refute it at one input. -/
def fnVaPanicsWrong : ChangeSpec := { name := "fnVaPanics", fn := fun _ => fun
  | [d1, d2] => { results := [.lit (.bool false)], args := [d1, d2] }
  | _ => none }
def FnVaPanicsWrongFalsely : Prop := fnVaPanicsRow.holds Tryd.pinned (OpenSpec.ofChange fnVaPanicsWrong)

/- THE SECOND FORM. 'bulk': how many values and letters a reading holds, each counted each time it is reached (what is shared counts as often as it is met; a slice's spare places count too). A statement '..UptoSaid' is the law's where the arguments, and the package variables that the reading takes, are together of bulk at most 1048576: NARROWER than '..Said'. Prove '..Said' where nothing that the law and all that it calls make is longer than what came in: it says more and counts as full. Else prove '..UptoSaid'. A law counts once. -/
mutual
def uptoBulk {H : Type} : DataW H → Nat
  | .lit (.string bytes) => bytes.length + 1
  | .lit _ => 1
  | .nil => 1
  | .ptr d => uptoBulk d + 1
  | .slice elems spare => uptoBulkAll elems + uptoBulkAll spare + 1
  | .agg parts => uptoBulkAll parts + 1
  | .iface _ d => uptoBulk d + 1
  | .map entries => uptoBulkEntries entries + 1
  | .held _ => 1
def uptoBulkAll {H : Type} : List (DataW H) → Nat
  | [] => 0
  | d :: r => uptoBulk d + uptoBulkAll r
def uptoBulkEntries {H : Type} : List (Lit × DataW H) → Nat
  | [] => 0
  | x :: r => uptoBulkEntry x + uptoBulkEntries r
def uptoBulkEntry {H : Type} : Lit × DataW H → Nat
  | (.string bytes, d) => bytes.length + uptoBulk d + 1
  | (_, d) => uptoBulk d + 1
 end
def uptoSmall : (H : Type) → List (DataW H) → Bool := fun _ ds => decide (uptoBulkAll ds ≤ 1048576)
def OpenSpec.upto (s : _root_.Go.ChangeSpec) : _root_.Go.OpenSpec := { _root_.Go.OpenSpec.ofChange s with cond := some uptoSmall }

/-- 'laws.FnVaEqual', WHERE WHAT IT READS IS OF BULK AT MOST 1048576: true; the input reads as it did. -/
def fnVaEqualUptoRow : OpenClaim := { program := "ytcgdnjigocknbaadoor", sum := "e7468eb6e0dfe304f8ceb914f35901ba449ddec88b292f1f956ad3d058965e82", func := "pub-jottings/laws.FnVaEqual", spec := "fnVaEqual", inPlace := ["math.Float64frombits", "math.Float64bits"], unfollowed := true, recurses := true, named := ["pub-jottings/pub/slog.kindStrings"], loops := true, apart := false, laid := [("pub-jottings/pub/slog.kindStrings", laid_pub_jottings_pub_slog_kindStrings)], narrowed := true }
def FnVaEqualUptoSaid : Prop := fnVaEqualUptoRow.holds Tryd.pinned (OpenSpec.upto fnVaEqualSpec)

/-- 'laws.FnVaEqualAll', WHERE WHAT IT READS IS OF BULK AT MOST 1048576: true; the input reads as it did. -/
def fnVaEqualAllUptoRow : OpenClaim := { program := "ytcgdnjigocknbaadoor", sum := "e7468eb6e0dfe304f8ceb914f35901ba449ddec88b292f1f956ad3d058965e82", func := "pub-jottings/laws.FnVaEqualAll", spec := "fnVaEqualAll", inPlace := ["math.Float64frombits", "math.Float64bits"], unfollowed := true, recurses := true, named := ["pub-jottings/pub/slog.kindStrings"], loops := true, apart := false, laid := [("pub-jottings/pub/slog.kindStrings", laid_pub_jottings_pub_slog_kindStrings)], narrowed := true }
def FnVaEqualAllUptoSaid : Prop := fnVaEqualAllUptoRow.holds Tryd.pinned (OpenSpec.upto fnVaEqualAllSpec)

/-- 'laws.FnVaAttrEqual', WHERE WHAT IT READS IS OF BULK AT MOST 1048576: true; the input reads as it did. -/
def fnVaAttrEqualUptoRow : OpenClaim := { program := "ytcgdnjigocknbaadoor", sum := "e7468eb6e0dfe304f8ceb914f35901ba449ddec88b292f1f956ad3d058965e82", func := "pub-jottings/laws.FnVaAttrEqual", spec := "fnVaAttrEqual", inPlace := ["math.Float64frombits", "math.Float64bits"], unfollowed := true, recurses := true, named := ["pub-jottings/pub/slog.kindStrings"], loops := true, apart := false, laid := [("pub-jottings/pub/slog.kindStrings", laid_pub_jottings_pub_slog_kindStrings)], narrowed := true }
def FnVaAttrEqualUptoSaid : Prop := fnVaAttrEqualUptoRow.holds Tryd.pinned (OpenSpec.upto fnVaAttrEqualSpec)

/-- 'laws.FnVaPanics', WHERE WHAT IT READS IS OF BULK AT MOST 1048576: true; the input reads as it did. -/
def fnVaPanicsUptoRow : OpenClaim := { program := "ytcgdnjigocknbaadoor", sum := "e7468eb6e0dfe304f8ceb914f35901ba449ddec88b292f1f956ad3d058965e82", func := "pub-jottings/laws.FnVaPanics", spec := "fnVaPanics", inPlace := ["math.Float64frombits", "math.Float64bits"], unfollowed := true, recurses := true, named := ["pub-jottings/pub/slog.kindStrings"], loops := true, apart := false, laid := [("pub-jottings/pub/slog.kindStrings", laid_pub_jottings_pub_slog_kindStrings)], narrowed := true }
def FnVaPanicsUptoSaid : Prop := fnVaPanicsUptoRow.holds Tryd.pinned (OpenSpec.upto fnVaPanicsSpec)

end Rows
end Go.Proofs.YtcgdnjigocknbaaDoor

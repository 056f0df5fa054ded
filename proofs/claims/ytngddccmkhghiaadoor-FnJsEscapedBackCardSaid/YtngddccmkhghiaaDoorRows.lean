/-
  NARROWER THAN 'FOR EVERY INPUT', by the rows' own cells (each row's printed sentence says how): FnVaKindName: laid · FnJsEscaped: laid · FnJsEscapedBack: laid.
  DERIVED. THE GIVEN ROWS OF THIS SEAT. 3 by the template 'for every input the law returns true; each argument reads behind the call as it read before'; 0 by the template 'total and deterministic' (their statements: YtngddccmkhghiaaDoorTotals.lean).
  GIVEN WITH THE SEED: the statements are not yours to turn. If you find one false, say at which input.
  Laid BY PROGRAM, IN A SANDBOX (cutbox-rows.mjs): the forced cells as the released guide's own fill.sh prints them over the translation 599401749fea05c9… (all of the seat's roots in one cut). By AI agents, Wed Nov 11 2026. No macro, syntax, notation, axiom, sorry.
-/
import Derived.Test.YtngddccmkhghiaaDoorChecked
import GoSem.PinnedTables
import GoSem.Claim
import GoSem.ClaimJoined
import GoSem.ClaimMapViews
import Derived.JoinedTies
import Derived.KernelRfl
namespace Go.Proofs.YtngddccmkhghiaaDoor
/- THE CELL 'sum', in the pinned program and in every row, IS THE sha256 OF THE DUMP (.gsa) THAT YtngddccmkhghiaaDoorProg.lean LOADS. Nothing in Lean hashes anything: it is a label: what it is worth is what the hold of that sum in a sandbox is worth. -/
noncomputable def Tryd.pinned : Pinned := { name := "ytngddccmkhghiaadoor", sum := "599401749fea05c9e5c0cc4c53e9ef4a1ab0e565bec06d46221c291622b6cae3", checked := Tryd.checked }
namespace Rows
def none {H : Type} : Left H := { results := [], args := [] }

/- WHAT THE LISTED PACKAGE-LEVEL VARIABLES READ AS WHEN THE CALL BEGINS. Each datum BY PROGRAM (the guide's laid-datum.mjs) off the statement by which the dump's own 'gosem.cut.vars' lays the variable. In a bare row this is a premise. The card (YtngddccmkhghiaaDoorCards.lean) ties it to the program's text. -/
def laid_pub_jottings_pub_slog_kindStrings {H : Type} : DataW H := .agg [.lit (.string [65, 110, 121]), .lit (.string [66, 111, 111, 108]), .lit (.string [68, 117, 114, 97, 116, 105, 111, 110]), .lit (.string [70, 108, 111, 97, 116, 54, 52]), .lit (.string [73, 110, 116, 54, 52]), .lit (.string [83, 116, 114, 105, 110, 103]), .lit (.string [84, 105, 109, 101]), .lit (.string [85, 105, 110, 116, 54, 52]), .lit (.string [71, 114, 111, 117, 112]), .lit (.string [76, 111, 103, 86, 97, 108, 117, 101, 114])]
def laid_unicode_utf8_acceptRanges {H : Type} : DataW H := .agg [.agg [.lit (.int .u8 128), .lit (.int .u8 191)], .agg [.lit (.int .u8 160), .lit (.int .u8 191)], .agg [.lit (.int .u8 128), .lit (.int .u8 159)], .agg [.lit (.int .u8 144), .lit (.int .u8 191)], .agg [.lit (.int .u8 128), .lit (.int .u8 143)], .agg [.lit (.int .u8 0), .lit (.int .u8 0)], .agg [.lit (.int .u8 0), .lit (.int .u8 0)], .agg [.lit (.int .u8 0), .lit (.int .u8 0)], .agg [.lit (.int .u8 0), .lit (.int .u8 0)], .agg [.lit (.int .u8 0), .lit (.int .u8 0)], .agg [.lit (.int .u8 0), .lit (.int .u8 0)], .agg [.lit (.int .u8 0), .lit (.int .u8 0)], .agg [.lit (.int .u8 0), .lit (.int .u8 0)], .agg [.lit (.int .u8 0), .lit (.int .u8 0)], .agg [.lit (.int .u8 0), .lit (.int .u8 0)], .agg [.lit (.int .u8 0), .lit (.int .u8 0)]]
def laid_pub_jottings_pub_slog_safeSet {H : Type} : DataW H := .agg [.lit (.bool false), .lit (.bool false), .lit (.bool false), .lit (.bool false), .lit (.bool false), .lit (.bool false), .lit (.bool false), .lit (.bool false), .lit (.bool false), .lit (.bool false), .lit (.bool false), .lit (.bool false), .lit (.bool false), .lit (.bool false), .lit (.bool false), .lit (.bool false), .lit (.bool false), .lit (.bool false), .lit (.bool false), .lit (.bool false), .lit (.bool false), .lit (.bool false), .lit (.bool false), .lit (.bool false), .lit (.bool false), .lit (.bool false), .lit (.bool false), .lit (.bool false), .lit (.bool false), .lit (.bool false), .lit (.bool false), .lit (.bool false), .lit (.bool true), .lit (.bool true), .lit (.bool false), .lit (.bool true), .lit (.bool true), .lit (.bool true), .lit (.bool true), .lit (.bool true), .lit (.bool true), .lit (.bool true), .lit (.bool true), .lit (.bool true), .lit (.bool true), .lit (.bool true), .lit (.bool true), .lit (.bool true), .lit (.bool true), .lit (.bool true), .lit (.bool true), .lit (.bool true), .lit (.bool true), .lit (.bool true), .lit (.bool true), .lit (.bool true), .lit (.bool true), .lit (.bool true), .lit (.bool true), .lit (.bool true), .lit (.bool true), .lit (.bool true), .lit (.bool true), .lit (.bool true), .lit (.bool true), .lit (.bool true), .lit (.bool true), .lit (.bool true), .lit (.bool true), .lit (.bool true), .lit (.bool true), .lit (.bool true), .lit (.bool true), .lit (.bool true), .lit (.bool true), .lit (.bool true), .lit (.bool true), .lit (.bool true), .lit (.bool true), .lit (.bool true), .lit (.bool true), .lit (.bool true), .lit (.bool true), .lit (.bool true), .lit (.bool true), .lit (.bool true), .lit (.bool true), .lit (.bool true), .lit (.bool true), .lit (.bool true), .lit (.bool true), .lit (.bool true), .lit (.bool false), .lit (.bool true), .lit (.bool true), .lit (.bool true), .lit (.bool true), .lit (.bool true), .lit (.bool true), .lit (.bool true), .lit (.bool true), .lit (.bool true), .lit (.bool true), .lit (.bool true), .lit (.bool true), .lit (.bool true), .lit (.bool true), .lit (.bool true), .lit (.bool true), .lit (.bool true), .lit (.bool true), .lit (.bool true), .lit (.bool true), .lit (.bool true), .lit (.bool true), .lit (.bool true), .lit (.bool true), .lit (.bool true), .lit (.bool true), .lit (.bool true), .lit (.bool true), .lit (.bool true), .lit (.bool true), .lit (.bool true), .lit (.bool true), .lit (.bool true), .lit (.bool true), .lit (.bool true)]
/-- One of Go's own tables, pinned by name: the form's constant. -/
def laid_unicode_utf8_first : DataW Unit := Go.Pinned.utf8First

/-- 'laws.FnVaKindName': WHATEVER THE INPUT: true; the input reads as it did. -/
def fnVaKindNameSpec : ChangeSpec := { name := "fnVaKindName", fn := fun _ => fun
  | [d] => { results := [.lit (.bool true)], args := [d] }
  | _ => none }
def fnVaKindNameRow : OpenClaim := { program := "ytngddccmkhghiaadoor", sum := "599401749fea05c9e5c0cc4c53e9ef4a1ab0e565bec06d46221c291622b6cae3", func := "pub-jottings/laws.FnVaKindName", spec := "fnVaKindName", named := ["pub-jottings/pub/slog.kindStrings"], apart := false, laid := [("pub-jottings/pub/slog.kindStrings", laid_pub_jottings_pub_slog_kindStrings)] }
def FnVaKindNameSaid : Prop := fnVaKindNameRow.holds Tryd.pinned (OpenSpec.ofChange fnVaKindNameSpec)

/-- ITS FALSE NEIGHBOUR: 'it returns false'. Refute it at one input. -/
def fnVaKindNameWrong : ChangeSpec := { name := "fnVaKindName", fn := fun _ => fun
  | [d] => { results := [.lit (.bool false)], args := [d] }
  | _ => none }
def FnVaKindNameWrongFalsely : Prop := fnVaKindNameRow.holds Tryd.pinned (OpenSpec.ofChange fnVaKindNameWrong)

/-- 'laws.FnJsEscaped': WHATEVER THE INPUT: true; the input reads as it did. -/
def fnJsEscapedSpec : ChangeSpec := { name := "fnJsEscaped", fn := fun _ => fun
  | [d] => { results := [.lit (.bool true)], args := [d] }
  | _ => none }
def fnJsEscapedRow : OpenClaim := { program := "ytngddccmkhghiaadoor", sum := "599401749fea05c9e5c0cc4c53e9ef4a1ab0e565bec06d46221c291622b6cae3", func := "pub-jottings/laws.FnJsEscaped", spec := "fnJsEscaped", unfollowed := true, recurses := true, named := ["pub-jottings/pub/slog.safeSet", "unicode/utf8.first", "unicode/utf8.acceptRanges"], apart := false, laid := [("unicode/utf8.acceptRanges", laid_unicode_utf8_acceptRanges), ("pub-jottings/pub/slog.safeSet", laid_pub_jottings_pub_slog_safeSet), ("unicode/utf8.first", laid_unicode_utf8_first)] }
def FnJsEscapedSaid : Prop := fnJsEscapedRow.holds Tryd.pinned (OpenSpec.ofChange fnJsEscapedSpec)

/-- ITS FALSE NEIGHBOUR: 'it returns false'. Refute it at one input. -/
def fnJsEscapedWrong : ChangeSpec := { name := "fnJsEscaped", fn := fun _ => fun
  | [d] => { results := [.lit (.bool false)], args := [d] }
  | _ => none }
def FnJsEscapedWrongFalsely : Prop := fnJsEscapedRow.holds Tryd.pinned (OpenSpec.ofChange fnJsEscapedWrong)

/-- 'laws.FnJsEscapedBack': WHATEVER THE INPUT: true; the input reads as it did. -/
def fnJsEscapedBackSpec : ChangeSpec := { name := "fnJsEscapedBack", fn := fun _ => fun
  | [d1, d2] => { results := [.lit (.bool true)], args := [d1, d2] }
  | _ => none }
def fnJsEscapedBackRow : OpenClaim := { program := "ytngddccmkhghiaadoor", sum := "599401749fea05c9e5c0cc4c53e9ef4a1ab0e565bec06d46221c291622b6cae3", func := "pub-jottings/laws.FnJsEscapedBack", spec := "fnJsEscapedBack", unfollowed := true, recurses := true, named := ["pub-jottings/pub/slog.safeSet", "unicode/utf8.first", "unicode/utf8.acceptRanges"], apart := false, laid := [("unicode/utf8.acceptRanges", laid_unicode_utf8_acceptRanges), ("pub-jottings/pub/slog.safeSet", laid_pub_jottings_pub_slog_safeSet), ("unicode/utf8.first", laid_unicode_utf8_first)] }
def FnJsEscapedBackSaid : Prop := fnJsEscapedBackRow.holds Tryd.pinned (OpenSpec.ofChange fnJsEscapedBackSpec)

/-- ITS FALSE NEIGHBOUR: 'it returns false'. Refute it at one input. -/
def fnJsEscapedBackWrong : ChangeSpec := { name := "fnJsEscapedBack", fn := fun _ => fun
  | [d1, d2] => { results := [.lit (.bool false)], args := [d1, d2] }
  | _ => none }
def FnJsEscapedBackWrongFalsely : Prop := fnJsEscapedBackRow.holds Tryd.pinned (OpenSpec.ofChange fnJsEscapedBackWrong)

/- THE SECOND FORM. 'bulk': how many values and letters a reading holds, each counted each time it is reached (what is shared counts as often as it is met; a slice's spare places count too). A statement '..UptoSaid' is the law's where the arguments, and the package variables that the reading takes, are together of bulk at most 1048576: NARROWER than '..Said'. Prove '..Said' where nothing that the law and all that it calls make is longer than what came in: it says more and counts as full. Else prove '..UptoSaid'. A law counts once. -/
mutual
def uptoBulk {H : Type} : DataW H → Nat
  | .lit (.string bytes) => bytes.length + 1
  | .lit _ => 1
  | .nil => 1
  | .ptr d => uptoBulk d + 1
  | .slice elems spare => uptoBulkAll elems + uptoBulkAll spare + 1
  | .agg parts => uptoBulkAll parts + 1
  | .iface _ d => uptoBulk d + 1
  | .map entries => uptoBulkEntries entries + 1
  | .held _ => 1
def uptoBulkAll {H : Type} : List (DataW H) → Nat
  | [] => 0
  | d :: r => uptoBulk d + uptoBulkAll r
def uptoBulkEntries {H : Type} : List (Lit × DataW H) → Nat
  | [] => 0
  | x :: r => uptoBulkEntry x + uptoBulkEntries r
def uptoBulkEntry {H : Type} : Lit × DataW H → Nat
  | (.string bytes, d) => bytes.length + uptoBulk d + 1
  | (_, d) => uptoBulk d + 1
 end
def uptoSmall : (H : Type) → List (DataW H) → Bool := fun _ ds => decide (uptoBulkAll ds ≤ 1048576)
def OpenSpec.upto (s : _root_.Go.ChangeSpec) : _root_.Go.OpenSpec := { _root_.Go.OpenSpec.ofChange s with cond := some uptoSmall }

/-- 'laws.FnVaKindName', WHERE WHAT IT READS IS OF BULK AT MOST 1048576: true; the input reads as it did. -/
def fnVaKindNameUptoRow : OpenClaim := { program := "ytngddccmkhghiaadoor", sum := "599401749fea05c9e5c0cc4c53e9ef4a1ab0e565bec06d46221c291622b6cae3", func := "pub-jottings/laws.FnVaKindName", spec := "fnVaKindName", named := ["pub-jottings/pub/slog.kindStrings"], apart := false, laid := [("pub-jottings/pub/slog.kindStrings", laid_pub_jottings_pub_slog_kindStrings)], narrowed := true }
def FnVaKindNameUptoSaid : Prop := fnVaKindNameUptoRow.holds Tryd.pinned (OpenSpec.upto fnVaKindNameSpec)

/-- 'laws.FnJsEscaped', WHERE WHAT IT READS IS OF BULK AT MOST 1048576: true; the input reads as it did. -/
def fnJsEscapedUptoRow : OpenClaim := { program := "ytngddccmkhghiaadoor", sum := "599401749fea05c9e5c0cc4c53e9ef4a1ab0e565bec06d46221c291622b6cae3", func := "pub-jottings/laws.FnJsEscaped", spec := "fnJsEscaped", unfollowed := true, recurses := true, named := ["pub-jottings/pub/slog.safeSet", "unicode/utf8.first", "unicode/utf8.acceptRanges"], apart := false, laid := [("unicode/utf8.acceptRanges", laid_unicode_utf8_acceptRanges), ("pub-jottings/pub/slog.safeSet", laid_pub_jottings_pub_slog_safeSet), ("unicode/utf8.first", laid_unicode_utf8_first)], narrowed := true }
def FnJsEscapedUptoSaid : Prop := fnJsEscapedUptoRow.holds Tryd.pinned (OpenSpec.upto fnJsEscapedSpec)

/-- 'laws.FnJsEscapedBack', WHERE WHAT IT READS IS OF BULK AT MOST 1048576: true; the input reads as it did. -/
def fnJsEscapedBackUptoRow : OpenClaim := { program := "ytngddccmkhghiaadoor", sum := "599401749fea05c9e5c0cc4c53e9ef4a1ab0e565bec06d46221c291622b6cae3", func := "pub-jottings/laws.FnJsEscapedBack", spec := "fnJsEscapedBack", unfollowed := true, recurses := true, named := ["pub-jottings/pub/slog.safeSet", "unicode/utf8.first", "unicode/utf8.acceptRanges"], apart := false, laid := [("unicode/utf8.acceptRanges", laid_unicode_utf8_acceptRanges), ("pub-jottings/pub/slog.safeSet", laid_pub_jottings_pub_slog_safeSet), ("unicode/utf8.first", laid_unicode_utf8_first)], narrowed := true }
def FnJsEscapedBackUptoSaid : Prop := fnJsEscapedBackUptoRow.holds Tryd.pinned (OpenSpec.upto fnJsEscapedBackSpec)

end Rows
end Go.Proofs.YtngddccmkhghiaaDoor

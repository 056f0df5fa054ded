/-
  NARROWER THAN 'FOR EVERY INPUT', by the rows' own cells (each row's printed sentence says how): FnRcArgs: loops, laid · FnRcPairs: loops, laid · FnRcPieces: loops, laid · FnRcClones: loops, laid · FnRcRecords: loops, laid · FnRcSplit: loops, laid · FnLgEach: loops, laid · FnLgMulti: loops, laid · FnLgAsked: loops, laid · FnLgBelow: loops, laid · FnLgWays: loops, laid · FnVaStays: loops, laid.
  DERIVED. THE GIVEN ROWS OF THIS SEAT. 12 by the template 'for every input the law returns true; each argument reads behind the call as it read before'; 0 by the template 'total and deterministic' (their statements: YtihhgnbgejjijaaGreatDoorTotals.lean).
  GIVEN WITH THE SEED: the statements are not yours to turn. If you find one false, say at which input.
  Laid BY PROGRAM, IN A SANDBOX (cutbox-rows.mjs): the forced cells as the released guide's own fill.sh prints them over the translation f16994d14c7a9250… (all of the seat's roots in one cut). By AI agents, Wed Nov 11 2026. No macro, syntax, notation, axiom, sorry.
-/
import Derived.Test.YtihhgnbgejjijaaGreatDoorChecked
import GoSem.PinnedTables
import GoSem.Claim
import GoSem.ClaimJoined
import GoSem.ClaimMapViews
import Derived.JoinedTies
import Derived.KernelRfl
namespace Go.Proofs.YtihhgnbgejjijaaGreatDoor
/- THE CELL 'sum', in the pinned program and in every row, IS THE sha256 OF THE DUMP (.gsa) THAT YtihhgnbgejjijaaGreatDoorProg.lean LOADS. Nothing in Lean hashes anything: it is a label: what it is worth is what the hold of that sum in a sandbox is worth. -/
noncomputable def Tryz.pinned : Pinned := { name := "ytihhgnbgejjijaagreatdoor", sum := "f16994d14c7a92503b483a4ff4e012f200bcc3e2156e9dd5b551f35b621e7c13", checked := Tryz.checked }
namespace Rows
def none {H : Type} : Left H := { results := [], args := [] }

/- WHAT THE LISTED PACKAGE-LEVEL VARIABLES READ AS WHEN THE CALL BEGINS. Each datum BY PROGRAM (the guide's laid-datum.mjs) off the statement by which the dump's own 'gosem.cut.vars' lays the variable. In a bare row this is a premise. The card (YtihhgnbgejjijaaGreatDoorCards.lean) ties it to the program's text. -/
def laid_pub_jottings_pub_slog_kindStrings {H : Type} : DataW H := .agg [.lit (.string [65, 110, 121]), .lit (.string [66, 111, 111, 108]), .lit (.string [68, 117, 114, 97, 116, 105, 111, 110]), .lit (.string [70, 108, 111, 97, 116, 54, 52]), .lit (.string [73, 110, 116, 54, 52]), .lit (.string [83, 116, 114, 105, 110, 103]), .lit (.string [84, 105, 109, 101]), .lit (.string [85, 105, 110, 116, 54, 52]), .lit (.string [71, 114, 111, 117, 112]), .lit (.string [76, 111, 103, 86, 97, 108, 117, 101, 114])]
def laid_math_bits_deBruijn32tab {H : Type} : DataW H := .agg [.lit (.int .u8 0), .lit (.int .u8 1), .lit (.int .u8 28), .lit (.int .u8 2), .lit (.int .u8 29), .lit (.int .u8 14), .lit (.int .u8 24), .lit (.int .u8 3), .lit (.int .u8 30), .lit (.int .u8 22), .lit (.int .u8 20), .lit (.int .u8 15), .lit (.int .u8 25), .lit (.int .u8 17), .lit (.int .u8 4), .lit (.int .u8 8), .lit (.int .u8 31), .lit (.int .u8 27), .lit (.int .u8 13), .lit (.int .u8 23), .lit (.int .u8 21), .lit (.int .u8 19), .lit (.int .u8 16), .lit (.int .u8 7), .lit (.int .u8 26), .lit (.int .u8 12), .lit (.int .u8 18), .lit (.int .u8 6), .lit (.int .u8 11), .lit (.int .u8 5), .lit (.int .u8 10), .lit (.int .u8 9)]
def laid_math_bits_deBruijn64tab {H : Type} : DataW H := .agg [.lit (.int .u8 0), .lit (.int .u8 1), .lit (.int .u8 56), .lit (.int .u8 2), .lit (.int .u8 57), .lit (.int .u8 49), .lit (.int .u8 28), .lit (.int .u8 3), .lit (.int .u8 61), .lit (.int .u8 58), .lit (.int .u8 42), .lit (.int .u8 50), .lit (.int .u8 38), .lit (.int .u8 29), .lit (.int .u8 17), .lit (.int .u8 4), .lit (.int .u8 62), .lit (.int .u8 47), .lit (.int .u8 59), .lit (.int .u8 36), .lit (.int .u8 45), .lit (.int .u8 43), .lit (.int .u8 51), .lit (.int .u8 22), .lit (.int .u8 53), .lit (.int .u8 39), .lit (.int .u8 33), .lit (.int .u8 30), .lit (.int .u8 24), .lit (.int .u8 18), .lit (.int .u8 12), .lit (.int .u8 5), .lit (.int .u8 63), .lit (.int .u8 55), .lit (.int .u8 48), .lit (.int .u8 27), .lit (.int .u8 60), .lit (.int .u8 41), .lit (.int .u8 37), .lit (.int .u8 16), .lit (.int .u8 46), .lit (.int .u8 35), .lit (.int .u8 44), .lit (.int .u8 21), .lit (.int .u8 52), .lit (.int .u8 32), .lit (.int .u8 23), .lit (.int .u8 11), .lit (.int .u8 54), .lit (.int .u8 26), .lit (.int .u8 40), .lit (.int .u8 15), .lit (.int .u8 34), .lit (.int .u8 20), .lit (.int .u8 31), .lit (.int .u8 10), .lit (.int .u8 25), .lit (.int .u8 14), .lit (.int .u8 19), .lit (.int .u8 9), .lit (.int .u8 13), .lit (.int .u8 8), .lit (.int .u8 7), .lit (.int .u8 6)]
def laid_internal_strconv_optimize {H : Type} : DataW H := .lit (.bool true)
def laid_internal_strconv_uint64pow10 {H : Type} : DataW H := .agg [.lit (.int .u64 1), .lit (.int .u64 10), .lit (.int .u64 100), .lit (.int .u64 1000), .lit (.int .u64 10000), .lit (.int .u64 100000), .lit (.int .u64 1000000), .lit (.int .u64 10000000), .lit (.int .u64 100000000), .lit (.int .u64 1000000000), .lit (.int .u64 10000000000), .lit (.int .u64 100000000000), .lit (.int .u64 1000000000000), .lit (.int .u64 10000000000000), .lit (.int .u64 100000000000000), .lit (.int .u64 1000000000000000), .lit (.int .u64 10000000000000000), .lit (.int .u64 100000000000000000), .lit (.int .u64 1000000000000000000), .lit (.int .u64 10000000000000000000)]
/-- One of Go's own tables, pinned by name: the form's constant. -/
def laid_internal_strconv_leftcheats : DataW Unit := Go.Pinned.leftcheats
/-- One of Go's own tables, pinned by name: the form's constant. -/
def laid_internal_strconv_pow10Tab : DataW Unit := Go.Pinned.pow10Tab

/-- 'laws.FnRcArgs': WHATEVER THE INPUT: true; the input reads as it did. -/
def fnRcArgsSpec : ChangeSpec := { name := "fnRcArgs", fn := fun _ => fun
  | [d] => { results := [.lit (.bool true)], args := [d] }
  | _ => none }
def fnRcArgsRow : OpenClaim := { program := "ytihhgnbgejjijaagreatdoor", sum := "f16994d14c7a92503b483a4ff4e012f200bcc3e2156e9dd5b551f35b621e7c13", func := "pub-jottings/laws.FnRcArgs", spec := "fnRcArgs", inPlace := ["math.Float64frombits", "math.Float64bits"], unfollowed := true, recurses := true, named := ["pub-jottings/pub/slog.kindStrings"], loops := true, apart := false, laid := [("pub-jottings/pub/slog.kindStrings", laid_pub_jottings_pub_slog_kindStrings)] }
def FnRcArgsSaid : Prop := fnRcArgsRow.holds Tryz.pinned (OpenSpec.ofChange fnRcArgsSpec)

/-- ITS FALSE NEIGHBOUR: 'it returns false'. Refute it at one input. -/
def fnRcArgsWrong : ChangeSpec := { name := "fnRcArgs", fn := fun _ => fun
  | [d] => { results := [.lit (.bool false)], args := [d] }
  | _ => none }
def FnRcArgsWrongFalsely : Prop := fnRcArgsRow.holds Tryz.pinned (OpenSpec.ofChange fnRcArgsWrong)

/-- 'laws.FnRcPairs': WHATEVER THE INPUT: true; the input reads as it did. -/
def fnRcPairsSpec : ChangeSpec := { name := "fnRcPairs", fn := fun _ => fun
  | [d1, d2] => { results := [.lit (.bool true)], args := [d1, d2] }
  | _ => none }
def fnRcPairsRow : OpenClaim := { program := "ytihhgnbgejjijaagreatdoor", sum := "f16994d14c7a92503b483a4ff4e012f200bcc3e2156e9dd5b551f35b621e7c13", func := "pub-jottings/laws.FnRcPairs", spec := "fnRcPairs", inPlace := ["math.Float64frombits", "math.Float64bits"], unfollowed := true, recurses := true, named := ["pub-jottings/pub/slog.kindStrings"], loops := true, apart := false, laid := [("pub-jottings/pub/slog.kindStrings", laid_pub_jottings_pub_slog_kindStrings)] }
def FnRcPairsSaid : Prop := fnRcPairsRow.holds Tryz.pinned (OpenSpec.ofChange fnRcPairsSpec)

/-- ITS FALSE NEIGHBOUR: 'it returns false'. Refute it at one input. -/
def fnRcPairsWrong : ChangeSpec := { name := "fnRcPairs", fn := fun _ => fun
  | [d1, d2] => { results := [.lit (.bool false)], args := [d1, d2] }
  | _ => none }
def FnRcPairsWrongFalsely : Prop := fnRcPairsRow.holds Tryz.pinned (OpenSpec.ofChange fnRcPairsWrong)

/-- 'laws.FnRcPieces': WHATEVER THE INPUT: true; the input reads as it did. -/
def fnRcPiecesSpec : ChangeSpec := { name := "fnRcPieces", fn := fun _ => fun
  | [d1, d2] => { results := [.lit (.bool true)], args := [d1, d2] }
  | _ => none }
def fnRcPiecesRow : OpenClaim := { program := "ytihhgnbgejjijaagreatdoor", sum := "f16994d14c7a92503b483a4ff4e012f200bcc3e2156e9dd5b551f35b621e7c13", func := "pub-jottings/laws.FnRcPieces", spec := "fnRcPieces", inPlace := ["math.Float64frombits", "math.Float64bits"], unfollowed := true, recurses := true, named := ["pub-jottings/pub/slog.kindStrings"], loops := true, apart := false, laid := [("pub-jottings/pub/slog.kindStrings", laid_pub_jottings_pub_slog_kindStrings)] }
def FnRcPiecesSaid : Prop := fnRcPiecesRow.holds Tryz.pinned (OpenSpec.ofChange fnRcPiecesSpec)

/-- ITS FALSE NEIGHBOUR: 'it returns false'. Refute it at one input. -/
def fnRcPiecesWrong : ChangeSpec := { name := "fnRcPieces", fn := fun _ => fun
  | [d1, d2] => { results := [.lit (.bool false)], args := [d1, d2] }
  | _ => none }
def FnRcPiecesWrongFalsely : Prop := fnRcPiecesRow.holds Tryz.pinned (OpenSpec.ofChange fnRcPiecesWrong)

/-- 'laws.FnRcClones': WHATEVER THE INPUT: true; the input reads as it did. -/
def fnRcClonesSpec : ChangeSpec := { name := "fnRcClones", fn := fun _ => fun
  | [d1, d2, d3] => { results := [.lit (.bool true)], args := [d1, d2, d3] }
  | _ => none }
def fnRcClonesRow : OpenClaim := { program := "ytihhgnbgejjijaagreatdoor", sum := "f16994d14c7a92503b483a4ff4e012f200bcc3e2156e9dd5b551f35b621e7c13", func := "pub-jottings/laws.FnRcClones", spec := "fnRcClones", inPlace := ["math.Float64frombits", "math.Float64bits", "internal/strconv.float32bits", "internal/strconv.float64bits"], unfollowed := true, recurses := true, named := ["pub-jottings/pub/slog.kindStrings", "internal/strconv.uint64pow10", "math/bits.deBruijn32tab", "math/bits.deBruijn64tab", "internal/strconv.optimize", "internal/strconv.pow10Tab", "internal/strconv.leftcheats"], loops := true, apart := false, laid := [("math/bits.deBruijn32tab", laid_math_bits_deBruijn32tab), ("math/bits.deBruijn64tab", laid_math_bits_deBruijn64tab), ("internal/strconv.optimize", laid_internal_strconv_optimize), ("internal/strconv.uint64pow10", laid_internal_strconv_uint64pow10), ("pub-jottings/pub/slog.kindStrings", laid_pub_jottings_pub_slog_kindStrings), ("internal/strconv.leftcheats", laid_internal_strconv_leftcheats), ("internal/strconv.pow10Tab", laid_internal_strconv_pow10Tab)] }
def FnRcClonesSaid : Prop := fnRcClonesRow.holds Tryz.pinned (OpenSpec.ofChange fnRcClonesSpec)

/-- ITS FALSE NEIGHBOUR: 'it returns false'. Refute it at one input. -/
def fnRcClonesWrong : ChangeSpec := { name := "fnRcClones", fn := fun _ => fun
  | [d1, d2, d3] => { results := [.lit (.bool false)], args := [d1, d2, d3] }
  | _ => none }
def FnRcClonesWrongFalsely : Prop := fnRcClonesRow.holds Tryz.pinned (OpenSpec.ofChange fnRcClonesWrong)

/-- 'laws.FnRcRecords': WHATEVER THE INPUT: true; the input reads as it did. -/
def fnRcRecordsSpec : ChangeSpec := { name := "fnRcRecords", fn := fun _ => fun
  | [d1, d2] => { results := [.lit (.bool true)], args := [d1, d2] }
  | _ => none }
def fnRcRecordsRow : OpenClaim := { program := "ytihhgnbgejjijaagreatdoor", sum := "f16994d14c7a92503b483a4ff4e012f200bcc3e2156e9dd5b551f35b621e7c13", func := "pub-jottings/laws.FnRcRecords", spec := "fnRcRecords", inPlace := ["math.Float64frombits", "math.Float64bits", "internal/strconv.float32bits", "internal/strconv.float64bits"], unfollowed := true, recurses := true, named := ["pub-jottings/pub/slog.kindStrings", "internal/strconv.uint64pow10", "math/bits.deBruijn32tab", "math/bits.deBruijn64tab", "internal/strconv.optimize", "internal/strconv.pow10Tab", "internal/strconv.leftcheats"], loops := true, apart := false, laid := [("math/bits.deBruijn32tab", laid_math_bits_deBruijn32tab), ("math/bits.deBruijn64tab", laid_math_bits_deBruijn64tab), ("internal/strconv.optimize", laid_internal_strconv_optimize), ("internal/strconv.uint64pow10", laid_internal_strconv_uint64pow10), ("pub-jottings/pub/slog.kindStrings", laid_pub_jottings_pub_slog_kindStrings), ("internal/strconv.leftcheats", laid_internal_strconv_leftcheats), ("internal/strconv.pow10Tab", laid_internal_strconv_pow10Tab)] }
def FnRcRecordsSaid : Prop := fnRcRecordsRow.holds Tryz.pinned (OpenSpec.ofChange fnRcRecordsSpec)

/-- ITS FALSE NEIGHBOUR: 'it returns false'. Refute it at one input. -/
def fnRcRecordsWrong : ChangeSpec := { name := "fnRcRecords", fn := fun _ => fun
  | [d1, d2] => { results := [.lit (.bool false)], args := [d1, d2] }
  | _ => none }
def FnRcRecordsWrongFalsely : Prop := fnRcRecordsRow.holds Tryz.pinned (OpenSpec.ofChange fnRcRecordsWrong)

/-- 'laws.FnRcSplit': WHATEVER THE INPUT: true; the input reads as it did. -/
def fnRcSplitSpec : ChangeSpec := { name := "fnRcSplit", fn := fun _ => fun
  | [d1, d2] => { results := [.lit (.bool true)], args := [d1, d2] }
  | _ => none }
def fnRcSplitRow : OpenClaim := { program := "ytihhgnbgejjijaagreatdoor", sum := "f16994d14c7a92503b483a4ff4e012f200bcc3e2156e9dd5b551f35b621e7c13", func := "pub-jottings/laws.FnRcSplit", spec := "fnRcSplit", inPlace := ["math.Float64frombits", "math.Float64bits", "internal/strconv.float32bits", "internal/strconv.float64bits"], unfollowed := true, recurses := true, named := ["pub-jottings/pub/slog.kindStrings", "internal/strconv.uint64pow10", "math/bits.deBruijn32tab", "math/bits.deBruijn64tab", "internal/strconv.optimize", "internal/strconv.pow10Tab", "internal/strconv.leftcheats"], loops := true, apart := false, laid := [("math/bits.deBruijn32tab", laid_math_bits_deBruijn32tab), ("math/bits.deBruijn64tab", laid_math_bits_deBruijn64tab), ("internal/strconv.optimize", laid_internal_strconv_optimize), ("internal/strconv.uint64pow10", laid_internal_strconv_uint64pow10), ("pub-jottings/pub/slog.kindStrings", laid_pub_jottings_pub_slog_kindStrings), ("internal/strconv.leftcheats", laid_internal_strconv_leftcheats), ("internal/strconv.pow10Tab", laid_internal_strconv_pow10Tab)] }
def FnRcSplitSaid : Prop := fnRcSplitRow.holds Tryz.pinned (OpenSpec.ofChange fnRcSplitSpec)

/-- ITS FALSE NEIGHBOUR: 'it returns false'. Refute it at one input. -/
def fnRcSplitWrong : ChangeSpec := { name := "fnRcSplit", fn := fun _ => fun
  | [d1, d2] => { results := [.lit (.bool false)], args := [d1, d2] }
  | _ => none }
def FnRcSplitWrongFalsely : Prop := fnRcSplitRow.holds Tryz.pinned (OpenSpec.ofChange fnRcSplitWrong)

/-- 'laws.FnLgEach': WHATEVER THE INPUT: true; the input reads as it did. -/
def fnLgEachSpec : ChangeSpec := { name := "fnLgEach", fn := fun _ => fun
  | [d1, d2, d3] => { results := [.lit (.bool true)], args := [d1, d2, d3] }
  | _ => none }
def fnLgEachRow : OpenClaim := { program := "ytihhgnbgejjijaagreatdoor", sum := "f16994d14c7a92503b483a4ff4e012f200bcc3e2156e9dd5b551f35b621e7c13", func := "pub-jottings/laws.FnLgEach", spec := "fnLgEach", inPlace := ["math.Float64frombits", "math.Float64bits"], unfollowed := true, recurses := true, named := ["pub-jottings/pub/slog.kindStrings"], loops := true, apart := false, laid := [("pub-jottings/pub/slog.kindStrings", laid_pub_jottings_pub_slog_kindStrings)] }
def FnLgEachSaid : Prop := fnLgEachRow.holds Tryz.pinned (OpenSpec.ofChange fnLgEachSpec)

/-- ITS FALSE NEIGHBOUR: 'it returns false'. Refute it at one input. -/
def fnLgEachWrong : ChangeSpec := { name := "fnLgEach", fn := fun _ => fun
  | [d1, d2, d3] => { results := [.lit (.bool false)], args := [d1, d2, d3] }
  | _ => none }
def FnLgEachWrongFalsely : Prop := fnLgEachRow.holds Tryz.pinned (OpenSpec.ofChange fnLgEachWrong)

/-- 'laws.FnLgMulti': WHATEVER THE INPUT: true; the input reads as it did. -/
def fnLgMultiSpec : ChangeSpec := { name := "fnLgMulti", fn := fun _ => fun
  | [d1, d2, d3] => { results := [.lit (.bool true)], args := [d1, d2, d3] }
  | _ => none }
def fnLgMultiRow : OpenClaim := { program := "ytihhgnbgejjijaagreatdoor", sum := "f16994d14c7a92503b483a4ff4e012f200bcc3e2156e9dd5b551f35b621e7c13", func := "pub-jottings/laws.FnLgMulti", spec := "fnLgMulti", inPlace := ["math.Float64frombits", "math.Float64bits"], unfollowed := true, recurses := true, named := ["pub-jottings/pub/slog.kindStrings"], loops := true, apart := false, laid := [("pub-jottings/pub/slog.kindStrings", laid_pub_jottings_pub_slog_kindStrings)] }
def FnLgMultiSaid : Prop := fnLgMultiRow.holds Tryz.pinned (OpenSpec.ofChange fnLgMultiSpec)

/-- ITS FALSE NEIGHBOUR: 'it returns false'. Refute it at one input. -/
def fnLgMultiWrong : ChangeSpec := { name := "fnLgMulti", fn := fun _ => fun
  | [d1, d2, d3] => { results := [.lit (.bool false)], args := [d1, d2, d3] }
  | _ => none }
def FnLgMultiWrongFalsely : Prop := fnLgMultiRow.holds Tryz.pinned (OpenSpec.ofChange fnLgMultiWrong)

/-- 'laws.FnLgAsked': WHATEVER THE INPUT: true; the input reads as it did. -/
def fnLgAskedSpec : ChangeSpec := { name := "fnLgAsked", fn := fun _ => fun
  | [d1, d2] => { results := [.lit (.bool true)], args := [d1, d2] }
  | _ => none }
def fnLgAskedRow : OpenClaim := { program := "ytihhgnbgejjijaagreatdoor", sum := "f16994d14c7a92503b483a4ff4e012f200bcc3e2156e9dd5b551f35b621e7c13", func := "pub-jottings/laws.FnLgAsked", spec := "fnLgAsked", inPlace := ["math.Float64frombits", "math.Float64bits"], unfollowed := true, recurses := true, named := ["pub-jottings/pub/slog.kindStrings"], loops := true, apart := false, laid := [("pub-jottings/pub/slog.kindStrings", laid_pub_jottings_pub_slog_kindStrings)] }
def FnLgAskedSaid : Prop := fnLgAskedRow.holds Tryz.pinned (OpenSpec.ofChange fnLgAskedSpec)

/-- ITS FALSE NEIGHBOUR: 'it returns false'. Refute it at one input. -/
def fnLgAskedWrong : ChangeSpec := { name := "fnLgAsked", fn := fun _ => fun
  | [d1, d2] => { results := [.lit (.bool false)], args := [d1, d2] }
  | _ => none }
def FnLgAskedWrongFalsely : Prop := fnLgAskedRow.holds Tryz.pinned (OpenSpec.ofChange fnLgAskedWrong)

/-- 'laws.FnLgBelow': WHATEVER THE INPUT: true; the input reads as it did. -/
def fnLgBelowSpec : ChangeSpec := { name := "fnLgBelow", fn := fun _ => fun
  | [d1, d2] => { results := [.lit (.bool true)], args := [d1, d2] }
  | _ => none }
def fnLgBelowRow : OpenClaim := { program := "ytihhgnbgejjijaagreatdoor", sum := "f16994d14c7a92503b483a4ff4e012f200bcc3e2156e9dd5b551f35b621e7c13", func := "pub-jottings/laws.FnLgBelow", spec := "fnLgBelow", inPlace := ["math.Float64frombits", "math.Float64bits"], unfollowed := true, recurses := true, named := ["pub-jottings/pub/slog.kindStrings"], loops := true, apart := false, laid := [("pub-jottings/pub/slog.kindStrings", laid_pub_jottings_pub_slog_kindStrings)] }
def FnLgBelowSaid : Prop := fnLgBelowRow.holds Tryz.pinned (OpenSpec.ofChange fnLgBelowSpec)

/-- ITS FALSE NEIGHBOUR: 'it returns false'. Refute it at one input. -/
def fnLgBelowWrong : ChangeSpec := { name := "fnLgBelow", fn := fun _ => fun
  | [d1, d2] => { results := [.lit (.bool false)], args := [d1, d2] }
  | _ => none }
def FnLgBelowWrongFalsely : Prop := fnLgBelowRow.holds Tryz.pinned (OpenSpec.ofChange fnLgBelowWrong)

/-- 'laws.FnLgWays': WHATEVER THE INPUT: true; the input reads as it did. -/
def fnLgWaysSpec : ChangeSpec := { name := "fnLgWays", fn := fun _ => fun
  | [d1, d2] => { results := [.lit (.bool true)], args := [d1, d2] }
  | _ => none }
def fnLgWaysRow : OpenClaim := { program := "ytihhgnbgejjijaagreatdoor", sum := "f16994d14c7a92503b483a4ff4e012f200bcc3e2156e9dd5b551f35b621e7c13", func := "pub-jottings/laws.FnLgWays", spec := "fnLgWays", inPlace := ["math.Float64frombits", "math.Float64bits"], unfollowed := true, recurses := true, named := ["pub-jottings/pub/slog.kindStrings"], loops := true, apart := false, laid := [("pub-jottings/pub/slog.kindStrings", laid_pub_jottings_pub_slog_kindStrings)] }
def FnLgWaysSaid : Prop := fnLgWaysRow.holds Tryz.pinned (OpenSpec.ofChange fnLgWaysSpec)

/-- ITS FALSE NEIGHBOUR: 'it returns false'. Refute it at one input. -/
def fnLgWaysWrong : ChangeSpec := { name := "fnLgWays", fn := fun _ => fun
  | [d1, d2] => { results := [.lit (.bool false)], args := [d1, d2] }
  | _ => none }
def FnLgWaysWrongFalsely : Prop := fnLgWaysRow.holds Tryz.pinned (OpenSpec.ofChange fnLgWaysWrong)

/-- 'laws.FnVaStays': WHATEVER THE INPUT: true; the input reads as it did. -/
def fnVaStaysSpec : ChangeSpec := { name := "fnVaStays", fn := fun _ => fun
  | [d1, d2, d3, d4] => { results := [.lit (.bool true)], args := [d1, d2, d3, d4] }
  | _ => none }
def fnVaStaysRow : OpenClaim := { program := "ytihhgnbgejjijaagreatdoor", sum := "f16994d14c7a92503b483a4ff4e012f200bcc3e2156e9dd5b551f35b621e7c13", func := "pub-jottings/laws.FnVaStays", spec := "fnVaStays", inPlace := ["math.Float64frombits", "math.Float64bits", "internal/strconv.float32bits", "internal/strconv.float64bits"], unfollowed := true, recurses := true, named := ["pub-jottings/pub/slog.kindStrings", "internal/strconv.uint64pow10", "math/bits.deBruijn32tab", "math/bits.deBruijn64tab", "internal/strconv.optimize", "internal/strconv.pow10Tab", "internal/strconv.leftcheats"], loops := true, apart := false, laid := [("math/bits.deBruijn32tab", laid_math_bits_deBruijn32tab), ("math/bits.deBruijn64tab", laid_math_bits_deBruijn64tab), ("internal/strconv.optimize", laid_internal_strconv_optimize), ("internal/strconv.uint64pow10", laid_internal_strconv_uint64pow10), ("pub-jottings/pub/slog.kindStrings", laid_pub_jottings_pub_slog_kindStrings), ("internal/strconv.leftcheats", laid_internal_strconv_leftcheats), ("internal/strconv.pow10Tab", laid_internal_strconv_pow10Tab)] }
def FnVaStaysSaid : Prop := fnVaStaysRow.holds Tryz.pinned (OpenSpec.ofChange fnVaStaysSpec)

/-- ITS FALSE NEIGHBOUR: 'it returns false'. Refute it at one input. -/
def fnVaStaysWrong : ChangeSpec := { name := "fnVaStays", fn := fun _ => fun
  | [d1, d2, d3, d4] => { results := [.lit (.bool false)], args := [d1, d2, d3, d4] }
  | _ => none }
def FnVaStaysWrongFalsely : Prop := fnVaStaysRow.holds Tryz.pinned (OpenSpec.ofChange fnVaStaysWrong)

/- THE SECOND FORM. 'bulk': how many values and letters a reading holds, each counted each time it is reached (what is shared counts as often as it is met; a slice's spare places count too). A statement '..UptoSaid' is the law's where the arguments, and the package variables that the reading takes, are together of bulk at most 1048576: NARROWER than '..Said'. Prove '..Said' where nothing that the law and all that it calls make is longer than what came in: it says more and counts as full. Else prove '..UptoSaid'. A law counts once. -/
mutual
def uptoBulk {H : Type} : DataW H → Nat
  | .lit (.string bytes) => bytes.length + 1
  | .lit _ => 1
  | .nil => 1
  | .ptr d => uptoBulk d + 1
  | .slice elems spare => uptoBulkAll elems + uptoBulkAll spare + 1
  | .agg parts => uptoBulkAll parts + 1
  | .iface _ d => uptoBulk d + 1
  | .map entries => uptoBulkEntries entries + 1
  | .held _ => 1
def uptoBulkAll {H : Type} : List (DataW H) → Nat
  | [] => 0
  | d :: r => uptoBulk d + uptoBulkAll r
def uptoBulkEntries {H : Type} : List (Lit × DataW H) → Nat
  | [] => 0
  | x :: r => uptoBulkEntry x + uptoBulkEntries r
def uptoBulkEntry {H : Type} : Lit × DataW H → Nat
  | (.string bytes, d) => bytes.length + uptoBulk d + 1
  | (_, d) => uptoBulk d + 1
 end
def uptoSmall : (H : Type) → List (DataW H) → Bool := fun _ ds => decide (uptoBulkAll ds ≤ 1048576)
def OpenSpec.upto (s : _root_.Go.ChangeSpec) : _root_.Go.OpenSpec := { _root_.Go.OpenSpec.ofChange s with cond := some uptoSmall }

/-- 'laws.FnRcArgs', WHERE WHAT IT READS IS OF BULK AT MOST 1048576: true; the input reads as it did. -/
def fnRcArgsUptoRow : OpenClaim := { program := "ytihhgnbgejjijaagreatdoor", sum := "f16994d14c7a92503b483a4ff4e012f200bcc3e2156e9dd5b551f35b621e7c13", func := "pub-jottings/laws.FnRcArgs", spec := "fnRcArgs", inPlace := ["math.Float64frombits", "math.Float64bits"], unfollowed := true, recurses := true, named := ["pub-jottings/pub/slog.kindStrings"], loops := true, apart := false, laid := [("pub-jottings/pub/slog.kindStrings", laid_pub_jottings_pub_slog_kindStrings)], narrowed := true }
def FnRcArgsUptoSaid : Prop := fnRcArgsUptoRow.holds Tryz.pinned (OpenSpec.upto fnRcArgsSpec)

/-- 'laws.FnRcPairs', WHERE WHAT IT READS IS OF BULK AT MOST 1048576: true; the input reads as it did. -/
def fnRcPairsUptoRow : OpenClaim := { program := "ytihhgnbgejjijaagreatdoor", sum := "f16994d14c7a92503b483a4ff4e012f200bcc3e2156e9dd5b551f35b621e7c13", func := "pub-jottings/laws.FnRcPairs", spec := "fnRcPairs", inPlace := ["math.Float64frombits", "math.Float64bits"], unfollowed := true, recurses := true, named := ["pub-jottings/pub/slog.kindStrings"], loops := true, apart := false, laid := [("pub-jottings/pub/slog.kindStrings", laid_pub_jottings_pub_slog_kindStrings)], narrowed := true }
def FnRcPairsUptoSaid : Prop := fnRcPairsUptoRow.holds Tryz.pinned (OpenSpec.upto fnRcPairsSpec)

/-- 'laws.FnRcPieces', WHERE WHAT IT READS IS OF BULK AT MOST 1048576: true; the input reads as it did. -/
def fnRcPiecesUptoRow : OpenClaim := { program := "ytihhgnbgejjijaagreatdoor", sum := "f16994d14c7a92503b483a4ff4e012f200bcc3e2156e9dd5b551f35b621e7c13", func := "pub-jottings/laws.FnRcPieces", spec := "fnRcPieces", inPlace := ["math.Float64frombits", "math.Float64bits"], unfollowed := true, recurses := true, named := ["pub-jottings/pub/slog.kindStrings"], loops := true, apart := false, laid := [("pub-jottings/pub/slog.kindStrings", laid_pub_jottings_pub_slog_kindStrings)], narrowed := true }
def FnRcPiecesUptoSaid : Prop := fnRcPiecesUptoRow.holds Tryz.pinned (OpenSpec.upto fnRcPiecesSpec)

/-- 'laws.FnRcClones', WHERE WHAT IT READS IS OF BULK AT MOST 1048576: true; the input reads as it did. -/
def fnRcClonesUptoRow : OpenClaim := { program := "ytihhgnbgejjijaagreatdoor", sum := "f16994d14c7a92503b483a4ff4e012f200bcc3e2156e9dd5b551f35b621e7c13", func := "pub-jottings/laws.FnRcClones", spec := "fnRcClones", inPlace := ["math.Float64frombits", "math.Float64bits", "internal/strconv.float32bits", "internal/strconv.float64bits"], unfollowed := true, recurses := true, named := ["pub-jottings/pub/slog.kindStrings", "internal/strconv.uint64pow10", "math/bits.deBruijn32tab", "math/bits.deBruijn64tab", "internal/strconv.optimize", "internal/strconv.pow10Tab", "internal/strconv.leftcheats"], loops := true, apart := false, laid := [("math/bits.deBruijn32tab", laid_math_bits_deBruijn32tab), ("math/bits.deBruijn64tab", laid_math_bits_deBruijn64tab), ("internal/strconv.optimize", laid_internal_strconv_optimize), ("internal/strconv.uint64pow10", laid_internal_strconv_uint64pow10), ("pub-jottings/pub/slog.kindStrings", laid_pub_jottings_pub_slog_kindStrings), ("internal/strconv.leftcheats", laid_internal_strconv_leftcheats), ("internal/strconv.pow10Tab", laid_internal_strconv_pow10Tab)], narrowed := true }
def FnRcClonesUptoSaid : Prop := fnRcClonesUptoRow.holds Tryz.pinned (OpenSpec.upto fnRcClonesSpec)

/-- 'laws.FnRcRecords', WHERE WHAT IT READS IS OF BULK AT MOST 1048576: true; the input reads as it did. -/
def fnRcRecordsUptoRow : OpenClaim := { program := "ytihhgnbgejjijaagreatdoor", sum := "f16994d14c7a92503b483a4ff4e012f200bcc3e2156e9dd5b551f35b621e7c13", func := "pub-jottings/laws.FnRcRecords", spec := "fnRcRecords", inPlace := ["math.Float64frombits", "math.Float64bits", "internal/strconv.float32bits", "internal/strconv.float64bits"], unfollowed := true, recurses := true, named := ["pub-jottings/pub/slog.kindStrings", "internal/strconv.uint64pow10", "math/bits.deBruijn32tab", "math/bits.deBruijn64tab", "internal/strconv.optimize", "internal/strconv.pow10Tab", "internal/strconv.leftcheats"], loops := true, apart := false, laid := [("math/bits.deBruijn32tab", laid_math_bits_deBruijn32tab), ("math/bits.deBruijn64tab", laid_math_bits_deBruijn64tab), ("internal/strconv.optimize", laid_internal_strconv_optimize), ("internal/strconv.uint64pow10", laid_internal_strconv_uint64pow10), ("pub-jottings/pub/slog.kindStrings", laid_pub_jottings_pub_slog_kindStrings), ("internal/strconv.leftcheats", laid_internal_strconv_leftcheats), ("internal/strconv.pow10Tab", laid_internal_strconv_pow10Tab)], narrowed := true }
def FnRcRecordsUptoSaid : Prop := fnRcRecordsUptoRow.holds Tryz.pinned (OpenSpec.upto fnRcRecordsSpec)

/-- 'laws.FnRcSplit', WHERE WHAT IT READS IS OF BULK AT MOST 1048576: true; the input reads as it did. -/
def fnRcSplitUptoRow : OpenClaim := { program := "ytihhgnbgejjijaagreatdoor", sum := "f16994d14c7a92503b483a4ff4e012f200bcc3e2156e9dd5b551f35b621e7c13", func := "pub-jottings/laws.FnRcSplit", spec := "fnRcSplit", inPlace := ["math.Float64frombits", "math.Float64bits", "internal/strconv.float32bits", "internal/strconv.float64bits"], unfollowed := true, recurses := true, named := ["pub-jottings/pub/slog.kindStrings", "internal/strconv.uint64pow10", "math/bits.deBruijn32tab", "math/bits.deBruijn64tab", "internal/strconv.optimize", "internal/strconv.pow10Tab", "internal/strconv.leftcheats"], loops := true, apart := false, laid := [("math/bits.deBruijn32tab", laid_math_bits_deBruijn32tab), ("math/bits.deBruijn64tab", laid_math_bits_deBruijn64tab), ("internal/strconv.optimize", laid_internal_strconv_optimize), ("internal/strconv.uint64pow10", laid_internal_strconv_uint64pow10), ("pub-jottings/pub/slog.kindStrings", laid_pub_jottings_pub_slog_kindStrings), ("internal/strconv.leftcheats", laid_internal_strconv_leftcheats), ("internal/strconv.pow10Tab", laid_internal_strconv_pow10Tab)], narrowed := true }
def FnRcSplitUptoSaid : Prop := fnRcSplitUptoRow.holds Tryz.pinned (OpenSpec.upto fnRcSplitSpec)

/-- 'laws.FnLgEach', WHERE WHAT IT READS IS OF BULK AT MOST 1048576: true; the input reads as it did. -/
def fnLgEachUptoRow : OpenClaim := { program := "ytihhgnbgejjijaagreatdoor", sum := "f16994d14c7a92503b483a4ff4e012f200bcc3e2156e9dd5b551f35b621e7c13", func := "pub-jottings/laws.FnLgEach", spec := "fnLgEach", inPlace := ["math.Float64frombits", "math.Float64bits"], unfollowed := true, recurses := true, named := ["pub-jottings/pub/slog.kindStrings"], loops := true, apart := false, laid := [("pub-jottings/pub/slog.kindStrings", laid_pub_jottings_pub_slog_kindStrings)], narrowed := true }
def FnLgEachUptoSaid : Prop := fnLgEachUptoRow.holds Tryz.pinned (OpenSpec.upto fnLgEachSpec)

/-- 'laws.FnLgMulti', WHERE WHAT IT READS IS OF BULK AT MOST 1048576: true; the input reads as it did. -/
def fnLgMultiUptoRow : OpenClaim := { program := "ytihhgnbgejjijaagreatdoor", sum := "f16994d14c7a92503b483a4ff4e012f200bcc3e2156e9dd5b551f35b621e7c13", func := "pub-jottings/laws.FnLgMulti", spec := "fnLgMulti", inPlace := ["math.Float64frombits", "math.Float64bits"], unfollowed := true, recurses := true, named := ["pub-jottings/pub/slog.kindStrings"], loops := true, apart := false, laid := [("pub-jottings/pub/slog.kindStrings", laid_pub_jottings_pub_slog_kindStrings)], narrowed := true }
def FnLgMultiUptoSaid : Prop := fnLgMultiUptoRow.holds Tryz.pinned (OpenSpec.upto fnLgMultiSpec)

/-- 'laws.FnLgAsked', WHERE WHAT IT READS IS OF BULK AT MOST 1048576: true; the input reads as it did. -/
def fnLgAskedUptoRow : OpenClaim := { program := "ytihhgnbgejjijaagreatdoor", sum := "f16994d14c7a92503b483a4ff4e012f200bcc3e2156e9dd5b551f35b621e7c13", func := "pub-jottings/laws.FnLgAsked", spec := "fnLgAsked", inPlace := ["math.Float64frombits", "math.Float64bits"], unfollowed := true, recurses := true, named := ["pub-jottings/pub/slog.kindStrings"], loops := true, apart := false, laid := [("pub-jottings/pub/slog.kindStrings", laid_pub_jottings_pub_slog_kindStrings)], narrowed := true }
def FnLgAskedUptoSaid : Prop := fnLgAskedUptoRow.holds Tryz.pinned (OpenSpec.upto fnLgAskedSpec)

/-- 'laws.FnLgBelow', WHERE WHAT IT READS IS OF BULK AT MOST 1048576: true; the input reads as it did. -/
def fnLgBelowUptoRow : OpenClaim := { program := "ytihhgnbgejjijaagreatdoor", sum := "f16994d14c7a92503b483a4ff4e012f200bcc3e2156e9dd5b551f35b621e7c13", func := "pub-jottings/laws.FnLgBelow", spec := "fnLgBelow", inPlace := ["math.Float64frombits", "math.Float64bits"], unfollowed := true, recurses := true, named := ["pub-jottings/pub/slog.kindStrings"], loops := true, apart := false, laid := [("pub-jottings/pub/slog.kindStrings", laid_pub_jottings_pub_slog_kindStrings)], narrowed := true }
def FnLgBelowUptoSaid : Prop := fnLgBelowUptoRow.holds Tryz.pinned (OpenSpec.upto fnLgBelowSpec)

/-- 'laws.FnLgWays', WHERE WHAT IT READS IS OF BULK AT MOST 1048576: true; the input reads as it did. -/
def fnLgWaysUptoRow : OpenClaim := { program := "ytihhgnbgejjijaagreatdoor", sum := "f16994d14c7a92503b483a4ff4e012f200bcc3e2156e9dd5b551f35b621e7c13", func := "pub-jottings/laws.FnLgWays", spec := "fnLgWays", inPlace := ["math.Float64frombits", "math.Float64bits"], unfollowed := true, recurses := true, named := ["pub-jottings/pub/slog.kindStrings"], loops := true, apart := false, laid := [("pub-jottings/pub/slog.kindStrings", laid_pub_jottings_pub_slog_kindStrings)], narrowed := true }
def FnLgWaysUptoSaid : Prop := fnLgWaysUptoRow.holds Tryz.pinned (OpenSpec.upto fnLgWaysSpec)

/-- 'laws.FnVaStays', WHERE WHAT IT READS IS OF BULK AT MOST 1048576: true; the input reads as it did. -/
def fnVaStaysUptoRow : OpenClaim := { program := "ytihhgnbgejjijaagreatdoor", sum := "f16994d14c7a92503b483a4ff4e012f200bcc3e2156e9dd5b551f35b621e7c13", func := "pub-jottings/laws.FnVaStays", spec := "fnVaStays", inPlace := ["math.Float64frombits", "math.Float64bits", "internal/strconv.float32bits", "internal/strconv.float64bits"], unfollowed := true, recurses := true, named := ["pub-jottings/pub/slog.kindStrings", "internal/strconv.uint64pow10", "math/bits.deBruijn32tab", "math/bits.deBruijn64tab", "internal/strconv.optimize", "internal/strconv.pow10Tab", "internal/strconv.leftcheats"], loops := true, apart := false, laid := [("math/bits.deBruijn32tab", laid_math_bits_deBruijn32tab), ("math/bits.deBruijn64tab", laid_math_bits_deBruijn64tab), ("internal/strconv.optimize", laid_internal_strconv_optimize), ("internal/strconv.uint64pow10", laid_internal_strconv_uint64pow10), ("pub-jottings/pub/slog.kindStrings", laid_pub_jottings_pub_slog_kindStrings), ("internal/strconv.leftcheats", laid_internal_strconv_leftcheats), ("internal/strconv.pow10Tab", laid_internal_strconv_pow10Tab)], narrowed := true }
def FnVaStaysUptoSaid : Prop := fnVaStaysUptoRow.holds Tryz.pinned (OpenSpec.upto fnVaStaysSpec)

end Rows
end Go.Proofs.YtihhgnbgejjijaaGreatDoor

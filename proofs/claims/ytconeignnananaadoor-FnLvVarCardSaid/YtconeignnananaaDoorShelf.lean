/- The library's contracts at this program's numbers. -/
import Derived.Shelf.Strings.Builder1
import Derived.Shelf.Strings.Builder2
import Derived.Shelf.Strings.OnBuilder
import Derived.Shelf.Small.Utf8
import Derived.Shelf.Strings.BuilderF
import Derived.Shelf.Strings.BuilderK
import Derived.Shelf.Strings.BuilderRune
import Derived.Shelf.Utf8.AppendRune
import Derived.Shelf.Strconv.Bsearch
import Derived.Shelf.Strconv.IsPrint
import Derived.Shelf.Strconv.IsPrint16
import Derived.Shelf.Strconv.IsPrint32
import Derived.Shelf.Strconv.Escaped
import Derived.Shelf.Strconv.Quoted
import Derived.Shelf.Strconv.Quote
import Derived.Ground.FneProg
import Derived.Shelf.Strconv.NumErrorText
import Derived.Shelf.Strings.Builder2Cap
import Derived.Shelf.Strconv.Atoi
import Derived.Shelf.Strconv.Itoa0
import Derived.Shelf.Strconv.Itoa1
import Derived.Shelf.LaysM
import Derived.Shelf.Strconv.Itoa2
import Derived.Shelf.Strconv.Itoa3
import Derived.Shelf.Strconv.AtoiErrFast
import Derived.Shelf.Strconv.ParseIntEmpty
import Derived.Shelf.Strconv.AtoiFail
import Derived.Shelf.Strconv.Clone
import Derived.Shelf.Strconv.SyntaxError
import Derived.Shelf.LaysC
import Derived.Shelf.Strconv.ToError
import Derived.Shelf.Strconv.AtoiErr
import Derived.Shelf.Strconv.ErrVar
import Derived.Shelf.Strconv.Lower
import Derived.Shelf.Strconv.ParseUint10
import Derived.Shelf.Strconv.ParseUint10Empty
import Derived.Shelf.Strconv.ParseUint10Any
import Derived.Shelf.Strconv.ParseInt10
import Derived.Shelf.Strconv.AtoiLong
import Derived.Shelf.Strconv.AtoiInnerAll
import Derived.Shelf.Strconv.RangeError
import Derived.Shelf.Strconv.ToErrorRange
import Derived.Shelf.Strconv.AtoiAll
import Derived.Shelf.Strconv.ErrVarAll
import Derived.Shelf.Strconv.ParseUintEmpty
import Derived.Shelf.Strconv.ParseUint10b64
import Derived.Shelf.Strconv.ParseUint10b32
import Derived.Shelf.Strconv.ParseUint10b16
import Derived.Shelf.Strconv.ParseUint10b8
import Derived.Shelf.Strconv.ParseUint10At
import Derived.Shelf.Strconv.ParseInt10At64
import Derived.Shelf.Strconv.ParseInt10At32
import Derived.Shelf.Strconv.ParseInt10At16
import Derived.Shelf.Strconv.ParseInt10At8
import Derived.Shelf.Strconv.ParseInt10All
import Derived.Shelf.Unicode.Latin
import Derived.Shelf.Unicode.Decode
import Derived.Shelf.Unicode.DecodeSlow
import Derived.Shelf.Unicode.DecodeAny
import Derived.Shelf.Unicode.CaseLookup
import Derived.Shelf.Unicode.CaseConvert
import Derived.Shelf.Unicode.CaseTo
import Derived.Shelf.Unicode.CaseLaid
import Derived.Shelf.Strings.MapAny
import Derived.Shelf.Strings.CaseAny
import Derived.Shelf.Strings.BuilderCap
import Derived.Shelf.Strings.MapGrows
import Derived.Shelf.Unicode.ValidAny
import Derived.Ground.NamesProg
import Derived.Test.YtconeignnananaaDoorProg
namespace Go.Proofs
open Go.Shelf
def Tryd.lays158_ren : Go.Shelf.Ren := ⟨fun | 158 => 57 | 165 => 69 | 166 => 70 | 167 => 71 | 169 => 72 | 230 => 73 | 203 => 74 | 240 => 89 | 241 => 90 | 197 => 78 | 118 => 91 | 168 => 92 | 270 => 93 | 262 => 94 | 276 => 105 | 277 => 106 | 260 => 97 | 242 => 80 | 313 => 107 | 278 => 100 | 274 => 112 | 275 => 113 | n => n, fun | 9 => 9 | 4 => 4 | 3 => 3 | 5 => 5 | 72 => 97 | 0 => 0 | 76 => 75 | 75 => 44 | 107 => 80 | 70 => 95 | 20 => 20 | 37 => 41 | 127 => 116 | 21 => 21 | 105 => 103 | 164 => 135 | 162 => 139 | 203 => 126 | 119 => 122 | 46 => 88 | 139 => 125 | 138 => 124 | 51 => 85 | 160 => 146 | 208 => 152 | 206 => 150 | 80 => 46 | n => n, fun | 13 => 7 | 3 => 2 | 4 => 3 | n => n⟩
theorem Tryd.lays158 : Go.Proofs.Lays.n158 Tryd.prog Tryd.lays158_ren := {
  mixed := by kernel_rfl
  f118 := Tryd.func91.trans (congrArg some (by kernel_rfl))
  f158 := Tryd.func57.trans (congrArg some (by kernel_rfl))
  f165 := Tryd.func69.trans (congrArg some (by kernel_rfl))
  f166 := Tryd.func70.trans (congrArg some (by kernel_rfl))
  f167 := Tryd.func71.trans (congrArg some (by kernel_rfl))
  f168 := Tryd.func92.trans (congrArg some (by kernel_rfl))
  f169 := Tryd.func72.trans (congrArg some (by kernel_rfl))
  f197 := Tryd.func78.trans (congrArg some (by kernel_rfl))
  f203 := Tryd.func74.trans (congrArg some (by kernel_rfl))
  f230 := Tryd.func73.trans (congrArg some (by kernel_rfl))
  f240 := Tryd.func89.trans (congrArg some (by kernel_rfl))
  f241 := Tryd.func90.trans (congrArg some (by kernel_rfl))
  f242 := Tryd.func80.trans (congrArg some (by kernel_rfl))
  f260 := Tryd.func97.trans (congrArg some (by kernel_rfl))
  f262 := Tryd.func94.trans (congrArg some (by kernel_rfl))
  f270 := Tryd.func93.trans (congrArg some (by kernel_rfl))
  f274 := Tryd.func112.trans (congrArg some (by kernel_rfl))
  f275 := Tryd.func113.trans (congrArg some (by kernel_rfl))
  f276 := Tryd.func105.trans (congrArg some (by kernel_rfl))
  f277 := Tryd.func106.trans (congrArg some (by kernel_rfl))
  f278 := Tryd.func100.trans (congrArg some (by kernel_rfl))
  f313 := Tryd.func107.trans (congrArg some (by kernel_rfl))
  t0 := Tryd.underlying0
  a0 := Tryd.isAgg0
  z0 := Tryd.sizeOf0
  v0 := Tryd.zeroValue0
  t3 := Tryd.underlying3
  a3 := Tryd.isAgg3
  z3 := Tryd.sizeOf3
  v3 := Tryd.zeroValue3
  t4 := Tryd.underlying4
  a4 := Tryd.isAgg4
  z4 := Tryd.sizeOf4
  v4 := Tryd.zeroValue4
  t5 := Tryd.underlying5
  a5 := Tryd.isAgg5
  z5 := Tryd.sizeOf5
  v5 := Tryd.zeroValue5
  t9 := Tryd.underlying9
  a9 := Tryd.isAgg9
  z9 := Tryd.sizeOf9
  v9 := Tryd.zeroValue9
  t20 := Tryd.underlying20
  a20 := Tryd.isAgg20
  z20 := Tryd.sizeOf20
  v20 := Tryd.zeroValue20
  t21 := Tryd.underlying21
  a21 := Tryd.isAgg21
  z21 := Tryd.sizeOf21
  v21 := Tryd.zeroValue21
  t37 := Tryd.underlying41
  a37 := Tryd.isAgg41
  z37 := Tryd.sizeOf41
  v37 := Tryd.zeroValue41
  t46 := Tryd.underlying88
  a46 := Tryd.isAgg88
  z46 := Tryd.sizeOf88
  v46 := Tryd.zeroValue88
  t51 := Tryd.underlying85
  a51 := Tryd.isAgg85
  z51 := Tryd.sizeOf85
  v51 := Tryd.zeroValue85
  t70 := Tryd.underlying95
  a70 := Tryd.isAgg95
  z70 := Tryd.sizeOf95
  v70 := Tryd.zeroValue95
  t72 := Tryd.underlying97
  a72 := Tryd.isAgg97
  z72 := Tryd.sizeOf97
  v72 := Tryd.zeroValue97
  t75 := Tryd.underlying44
  a75 := Tryd.isAgg44
  z75 := Tryd.sizeOf44
  v75 := Tryd.zeroValue44
  t76 := Tryd.underlying75
  a76 := Tryd.isAgg75
  z76 := Tryd.sizeOf75
  v76 := Tryd.zeroValue75
  t105 := Tryd.underlying103
  a105 := Tryd.isAgg103
  z105 := Tryd.sizeOf103
  v105 := Tryd.zeroValue103
  t107 := Tryd.underlying80
  a107 := Tryd.isAgg80
  z107 := Tryd.sizeOf80
  v107 := Tryd.zeroValue80
  t119 := Tryd.underlying122
  a119 := Tryd.isAgg122
  z119 := Tryd.sizeOf122
  t127 := Tryd.underlying116
  a127 := Tryd.isAgg116
  z127 := Tryd.sizeOf116
  v127 := Tryd.zeroValue116
  t138 := Tryd.underlying124
  a138 := Tryd.isAgg124
  z138 := Tryd.sizeOf124
  v138 := Tryd.zeroValue124
  t139 := Tryd.underlying125
  a139 := Tryd.isAgg125
  z139 := Tryd.sizeOf125
  v139 := Tryd.zeroValue125
  t160 := Tryd.underlying146
  a160 := Tryd.isAgg146
  z160 := Tryd.sizeOf146
  v160 := Tryd.zeroValue146
  t162 := Tryd.underlying139
  a162 := Tryd.isAgg139
  z162 := Tryd.sizeOf139
  v162 := Tryd.zeroValue139
  t164 := Tryd.underlying135
  a164 := Tryd.isAgg135
  z164 := Tryd.sizeOf135
  v164 := Tryd.zeroValue135
  t203 := Tryd.underlying126
  a203 := Tryd.isAgg126
  z203 := Tryd.sizeOf126
  v203 := Tryd.zeroValue126
  t206 := Tryd.underlying150
  a206 := Tryd.isAgg150
  z206 := Tryd.sizeOf150
  v206 := Tryd.zeroValue150
  t208 := Tryd.underlying152
  a208 := Tryd.isAgg152
  z208 := Tryd.sizeOf152
  v208 := Tryd.zeroValue152
  g3 := by kernel_rfl
  g4 := by kernel_rfl
  g13 := by kernel_rfl }
theorem Tryd.Builder_Extra_158 : Builder.Extra Tryd.prog Tryd.lays158_ren := {
  sizeBuilder := by kernel_rfl
  liesBuilder := by kernel_rfl
  t5 := Tryd.underlying5
  a5 := Tryd.isAgg5
  z5 := Tryd.sizeOf5
  v5 := Tryd.zeroValue5
  infoByte := by kernel_rfl
  cellsByte := by kernel_rfl
  sizeByte := by kernel_rfl
  neB5 := by decide }
open Go.RowKit in
theorem Tryd.strings_ToUpper_ascii (s : ByteArray) (w : World) (hs : s.size ≤ 140737488355328) (hascii : ∀ (j : Nat) (b : UInt8), s.data.toList[j]? = some b → b.toNat < 128) :
    Calls Tryd.prog 57 #[.string s] w fun e w' => e = .returned (.string ⟨(Lib.toUpperA s.data.toList).toArray⟩) ∧ Below w.heap.size w w' := Any.strings_ToUpper_ascii Tryd.lays158 Tryd.Builder_Extra_158 s w hs hascii
def Tryd.lays339_ren : Go.Shelf.Ren := ⟨fun | 339 => 101 | 345 => 108 | 346 => 109 | n => n, fun | 21 => 21 | 4 => 4 | 49 => 140 | 234 => 141 | 131 => 25 | 3 => 3 | 0 => 0 | 51 => 85 | 236 => 143 | 46 => 88 | n => n, fun | 20 => 9 | 21 => 10 | 22 => 11 | 23 => 12 | n => n⟩
theorem Tryd.lays339 : Go.Proofs.Lays.n339 Tryd.prog Tryd.lays339_ren := {
  mixed := by kernel_rfl
  f339 := Tryd.func101.trans (congrArg some (by kernel_rfl))
  f345 := Tryd.func108.trans (congrArg some (by kernel_rfl))
  f346 := Tryd.func109.trans (congrArg some (by kernel_rfl))
  t0 := Tryd.underlying0
  a0 := Tryd.isAgg0
  z0 := Tryd.sizeOf0
  v0 := Tryd.zeroValue0
  t3 := Tryd.underlying3
  a3 := Tryd.isAgg3
  z3 := Tryd.sizeOf3
  v3 := Tryd.zeroValue3
  t4 := Tryd.underlying4
  a4 := Tryd.isAgg4
  z4 := Tryd.sizeOf4
  v4 := Tryd.zeroValue4
  t21 := Tryd.underlying21
  a21 := Tryd.isAgg21
  z21 := Tryd.sizeOf21
  v21 := Tryd.zeroValue21
  t46 := Tryd.underlying88
  a46 := Tryd.isAgg88
  z46 := Tryd.sizeOf88
  v46 := Tryd.zeroValue88
  t49 := Tryd.underlying140
  a49 := Tryd.isAgg140
  z49 := Tryd.sizeOf140
  v49 := Tryd.zeroValue140
  t51 := Tryd.underlying85
  a51 := Tryd.isAgg85
  z51 := Tryd.sizeOf85
  v51 := Tryd.zeroValue85
  t131 := Tryd.underlying25
  a131 := Tryd.isAgg25
  z131 := Tryd.sizeOf25
  v131 := Tryd.zeroValue25
  t234 := Tryd.underlying141
  a234 := Tryd.isAgg141
  z234 := Tryd.sizeOf141
  v234 := Tryd.zeroValue141
  t236 := Tryd.underlying143
  a236 := Tryd.isAgg143
  z236 := Tryd.sizeOf143
  v236 := Tryd.zeroValue143
  g20 := by kernel_rfl
  g21 := by kernel_rfl
  g22 := by kernel_rfl
  g23 := by kernel_rfl }
def Tryd.lays323_ren : Go.Shelf.Ren := ⟨fun | 323 => 81 | 339 => 101 | 340 => 102 | 242 => 80 | 119 => 99 | 345 => 108 | 346 => 109 | 278 => 100 | n => n, fun | 37 => 41 | 21 => 21 | 5 => 5 | 4 => 4 | 9 => 9 | 46 => 88 | 3 => 3 | 49 => 140 | 234 => 141 | 131 => 25 | 0 => 0 | 51 => 85 | 236 => 143 | n => n, fun | 20 => 9 | 21 => 10 | 22 => 11 | 23 => 12 | 24 => 13 | n => n⟩
theorem Tryd.lays323 : Go.Proofs.Lays.n323 Tryd.prog Tryd.lays323_ren := {
  mixed := by kernel_rfl
  f119 := Tryd.func99.trans (congrArg some (by kernel_rfl))
  f242 := Tryd.func80.trans (congrArg some (by kernel_rfl))
  f278 := Tryd.func100.trans (congrArg some (by kernel_rfl))
  f323 := Tryd.func81.trans (congrArg some (by kernel_rfl))
  f339 := Tryd.func101.trans (congrArg some (by kernel_rfl))
  f340 := Tryd.func102.trans (congrArg some (by kernel_rfl))
  f345 := Tryd.func108.trans (congrArg some (by kernel_rfl))
  f346 := Tryd.func109.trans (congrArg some (by kernel_rfl))
  t0 := Tryd.underlying0
  a0 := Tryd.isAgg0
  z0 := Tryd.sizeOf0
  v0 := Tryd.zeroValue0
  t3 := Tryd.underlying3
  a3 := Tryd.isAgg3
  z3 := Tryd.sizeOf3
  v3 := Tryd.zeroValue3
  t4 := Tryd.underlying4
  a4 := Tryd.isAgg4
  z4 := Tryd.sizeOf4
  v4 := Tryd.zeroValue4
  t5 := Tryd.underlying5
  a5 := Tryd.isAgg5
  z5 := Tryd.sizeOf5
  v5 := Tryd.zeroValue5
  t9 := Tryd.underlying9
  a9 := Tryd.isAgg9
  z9 := Tryd.sizeOf9
  v9 := Tryd.zeroValue9
  t21 := Tryd.underlying21
  a21 := Tryd.isAgg21
  z21 := Tryd.sizeOf21
  v21 := Tryd.zeroValue21
  t37 := Tryd.underlying41
  a37 := Tryd.isAgg41
  z37 := Tryd.sizeOf41
  v37 := Tryd.zeroValue41
  t46 := Tryd.underlying88
  a46 := Tryd.isAgg88
  z46 := Tryd.sizeOf88
  v46 := Tryd.zeroValue88
  t49 := Tryd.underlying140
  a49 := Tryd.isAgg140
  z49 := Tryd.sizeOf140
  v49 := Tryd.zeroValue140
  t51 := Tryd.underlying85
  a51 := Tryd.isAgg85
  z51 := Tryd.sizeOf85
  v51 := Tryd.zeroValue85
  t131 := Tryd.underlying25
  a131 := Tryd.isAgg25
  z131 := Tryd.sizeOf25
  v131 := Tryd.zeroValue25
  t234 := Tryd.underlying141
  a234 := Tryd.isAgg141
  z234 := Tryd.sizeOf141
  v234 := Tryd.zeroValue141
  t236 := Tryd.underlying143
  a236 := Tryd.isAgg143
  z236 := Tryd.sizeOf143
  v236 := Tryd.zeroValue143
  g20 := by kernel_rfl
  g21 := by kernel_rfl
  g22 := by kernel_rfl
  g23 := by kernel_rfl
  g24 := by kernel_rfl }
open Go.RowKit in
theorem Tryd.strconv_appendEscapedRune (T : Lib.PrintTabs) (B : Nat) (v : Value) (n : Nat) (xs : List Value) (r : Int) (W0 w : World) (hb : Lib.OwnBuf B 5 v n xs W0 w) (hlen : n + 10 ≤ 140737488355328) (hT : Lib.PrintTabsAt 9 10 11 12 T w) (hv : Lib.validRune r = true) :
    Calls Tryd.prog 81 #[v, .int .i32 r, .int .u8 34, .bool false, .bool false] w fun e w' => ∃ v', e = .returned v' ∧ Lib.OwnBuf B 5 v' (n + (Lib.escRune T r).length) (xs ++ Lib.intCells (Lib.escRune T r)) W0 w' := Any.strconv_appendEscapedRune Tryd.lays323 (by kernel_rfl) T B v n xs r W0 w hb hlen hT hv
def Tryd.lays177_ren : Go.Shelf.Ren := ⟨fun | 177 => 54 | 250 => 66 | 289 => 59 | 197 => 78 | 323 => 81 | 260 => 97 | 339 => 101 | 340 => 102 | 242 => 80 | 119 => 99 | 345 => 108 | 346 => 109 | 278 => 100 | n => n, fun | 9 => 9 | 5 => 5 | 4 => 4 | 3 => 3 | 37 => 41 | 21 => 21 | 105 => 103 | 46 => 88 | 119 => 122 | 0 => 0 | 139 => 125 | 138 => 124 | 49 => 140 | 234 => 141 | 131 => 25 | 51 => 85 | 236 => 143 | n => n, fun | 3 => 2 | 4 => 3 | 20 => 9 | 21 => 10 | 22 => 11 | 23 => 12 | 24 => 13 | n => n⟩
theorem Tryd.lays177 : Go.Proofs.Lays.n177 Tryd.prog Tryd.lays177_ren := {
  mixed := by kernel_rfl
  f119 := Tryd.func99.trans (congrArg some (by kernel_rfl))
  f177 := Tryd.func54.trans (congrArg some (by kernel_rfl))
  f197 := Tryd.func78.trans (congrArg some (by kernel_rfl))
  f242 := Tryd.func80.trans (congrArg some (by kernel_rfl))
  f250 := Tryd.func66.trans (congrArg some (by kernel_rfl))
  f260 := Tryd.func97.trans (congrArg some (by kernel_rfl))
  f278 := Tryd.func100.trans (congrArg some (by kernel_rfl))
  f289 := Tryd.func59.trans (congrArg some (by kernel_rfl))
  f323 := Tryd.func81.trans (congrArg some (by kernel_rfl))
  f339 := Tryd.func101.trans (congrArg some (by kernel_rfl))
  f340 := Tryd.func102.trans (congrArg some (by kernel_rfl))
  f345 := Tryd.func108.trans (congrArg some (by kernel_rfl))
  f346 := Tryd.func109.trans (congrArg some (by kernel_rfl))
  t0 := Tryd.underlying0
  a0 := Tryd.isAgg0
  z0 := Tryd.sizeOf0
  v0 := Tryd.zeroValue0
  t3 := Tryd.underlying3
  a3 := Tryd.isAgg3
  z3 := Tryd.sizeOf3
  v3 := Tryd.zeroValue3
  t4 := Tryd.underlying4
  a4 := Tryd.isAgg4
  z4 := Tryd.sizeOf4
  v4 := Tryd.zeroValue4
  t5 := Tryd.underlying5
  a5 := Tryd.isAgg5
  z5 := Tryd.sizeOf5
  v5 := Tryd.zeroValue5
  t9 := Tryd.underlying9
  a9 := Tryd.isAgg9
  z9 := Tryd.sizeOf9
  v9 := Tryd.zeroValue9
  t21 := Tryd.underlying21
  a21 := Tryd.isAgg21
  z21 := Tryd.sizeOf21
  v21 := Tryd.zeroValue21
  t37 := Tryd.underlying41
  a37 := Tryd.isAgg41
  z37 := Tryd.sizeOf41
  v37 := Tryd.zeroValue41
  t46 := Tryd.underlying88
  a46 := Tryd.isAgg88
  z46 := Tryd.sizeOf88
  v46 := Tryd.zeroValue88
  t49 := Tryd.underlying140
  a49 := Tryd.isAgg140
  z49 := Tryd.sizeOf140
  v49 := Tryd.zeroValue140
  t51 := Tryd.underlying85
  a51 := Tryd.isAgg85
  z51 := Tryd.sizeOf85
  v51 := Tryd.zeroValue85
  t105 := Tryd.underlying103
  a105 := Tryd.isAgg103
  z105 := Tryd.sizeOf103
  v105 := Tryd.zeroValue103
  t119 := Tryd.underlying122
  a119 := Tryd.isAgg122
  z119 := Tryd.sizeOf122
  t131 := Tryd.underlying25
  a131 := Tryd.isAgg25
  z131 := Tryd.sizeOf25
  v131 := Tryd.zeroValue25
  t138 := Tryd.underlying124
  a138 := Tryd.isAgg124
  z138 := Tryd.sizeOf124
  v138 := Tryd.zeroValue124
  t139 := Tryd.underlying125
  a139 := Tryd.isAgg125
  z139 := Tryd.sizeOf125
  v139 := Tryd.zeroValue125
  t234 := Tryd.underlying141
  a234 := Tryd.isAgg141
  z234 := Tryd.sizeOf141
  v234 := Tryd.zeroValue141
  t236 := Tryd.underlying143
  a236 := Tryd.isAgg143
  z236 := Tryd.sizeOf143
  v236 := Tryd.zeroValue143
  g3 := by kernel_rfl
  g4 := by kernel_rfl
  g20 := by kernel_rfl
  g21 := by kernel_rfl
  g22 := by kernel_rfl
  g23 := by kernel_rfl
  g24 := by kernel_rfl }
open Go.RowKit in
theorem Tryd.strconv_Quote (T : Lib.PrintTabs) (s : ByteArray) (w : World) (hlen : 10 * s.size + 12 ≤ 140737488355328) (hT : Lib.PrintTabsAt 9 10 11 12 T w) (hU : Lib.Utf8Tabs 2 3 w) :
    Calls Tryd.prog 54 #[.string s] w fun e w' => e = .returned (.string (strOfNums (Lib.quoteZ T s))) ∧ Below w.heap.size w w' := Any.strconv_Quote Tryd.lays177 (by kernel_rfl) T s w hlen hT hU
def Tryd.laysFn4_ren : Go.Shelf.Ren := ⟨fun | 4 => 132 | 5 => 54 | 6 => 66 | 7 => 59 | 8 => 78 | 9 => 81 | 10 => 97 | 11 => 101 | 12 => 102 | 13 => 80 | 14 => 99 | 15 => 108 | 16 => 109 | 17 => 100 | n => n, fun | 22 => 113 | 9 => 9 | 0 => 0 | 28 => 134 | 26 => 44 | 5 => 5 | 4 => 4 | 3 => 3 | 31 => 41 | 21 => 21 | 33 => 103 | 35 => 88 | 39 => 122 | 42 => 125 | 41 => 124 | 43 => 140 | 44 => 141 | 45 => 25 | 47 => 85 | 48 => 143 | 23 => 46 | n => n, fun | 0 => 2 | 1 => 3 | 2 => 9 | 3 => 10 | 4 => 11 | 5 => 12 | 6 => 13 | n => n⟩
theorem Tryd.laysFn4 : Go.Proofs.LaysFn.n4 Tryd.prog Tryd.laysFn4_ren := {
  mixed := by kernel_rfl
  f4 := Tryd.func132.trans (congrArg some (by kernel_rfl))
  f5 := Tryd.func54.trans (congrArg some (by kernel_rfl))
  f6 := Tryd.func66.trans (congrArg some (by kernel_rfl))
  f7 := Tryd.func59.trans (congrArg some (by kernel_rfl))
  f8 := Tryd.func78.trans (congrArg some (by kernel_rfl))
  f9 := Tryd.func81.trans (congrArg some (by kernel_rfl))
  f10 := Tryd.func97.trans (congrArg some (by kernel_rfl))
  f11 := Tryd.func101.trans (congrArg some (by kernel_rfl))
  f12 := Tryd.func102.trans (congrArg some (by kernel_rfl))
  f13 := Tryd.func80.trans (congrArg some (by kernel_rfl))
  f14 := Tryd.func99.trans (congrArg some (by kernel_rfl))
  f15 := Tryd.func108.trans (congrArg some (by kernel_rfl))
  f16 := Tryd.func109.trans (congrArg some (by kernel_rfl))
  f17 := Tryd.func100.trans (congrArg some (by kernel_rfl))
  t0 := Tryd.underlying0
  a0 := Tryd.isAgg0
  z0 := Tryd.sizeOf0
  v0 := Tryd.zeroValue0
  i0 := by kernel_rfl
  t3 := Tryd.underlying3
  a3 := Tryd.isAgg3
  z3 := Tryd.sizeOf3
  v3 := Tryd.zeroValue3
  i3 := by kernel_rfl
  t4 := Tryd.underlying4
  a4 := Tryd.isAgg4
  z4 := Tryd.sizeOf4
  v4 := Tryd.zeroValue4
  i4 := by kernel_rfl
  t5 := Tryd.underlying5
  a5 := Tryd.isAgg5
  z5 := Tryd.sizeOf5
  v5 := Tryd.zeroValue5
  i5 := by kernel_rfl
  t9 := Tryd.underlying9
  a9 := Tryd.isAgg9
  z9 := Tryd.sizeOf9
  v9 := Tryd.zeroValue9
  i9 := by kernel_rfl
  t21 := Tryd.underlying21
  a21 := Tryd.isAgg21
  z21 := Tryd.sizeOf21
  v21 := Tryd.zeroValue21
  i21 := by kernel_rfl
  t22 := Tryd.underlying113
  a22 := Tryd.isAgg113
  z22 := Tryd.sizeOf113
  v22 := Tryd.zeroValue113
  i22 := by kernel_rfl
  t23 := Tryd.underlying46
  a23 := Tryd.isAgg46
  z23 := Tryd.sizeOf46
  v23 := Tryd.zeroValue46
  i23 := by kernel_rfl
  t26 := Tryd.underlying44
  a26 := Tryd.isAgg44
  z26 := Tryd.sizeOf44
  v26 := Tryd.zeroValue44
  i26 := by kernel_rfl
  t28 := Tryd.underlying134
  a28 := Tryd.isAgg134
  z28 := Tryd.sizeOf134
  v28 := Tryd.zeroValue134
  i28 := by kernel_rfl
  t31 := Tryd.underlying41
  a31 := Tryd.isAgg41
  z31 := Tryd.sizeOf41
  v31 := Tryd.zeroValue41
  i31 := by kernel_rfl
  t33 := Tryd.underlying103
  a33 := Tryd.isAgg103
  z33 := Tryd.sizeOf103
  v33 := Tryd.zeroValue103
  i33 := by kernel_rfl
  t35 := Tryd.underlying88
  a35 := Tryd.isAgg88
  z35 := Tryd.sizeOf88
  v35 := Tryd.zeroValue88
  i35 := by kernel_rfl
  t39 := Tryd.underlying122
  a39 := Tryd.isAgg122
  z39 := Tryd.sizeOf122
  t41 := Tryd.underlying124
  a41 := Tryd.isAgg124
  z41 := Tryd.sizeOf124
  v41 := Tryd.zeroValue124
  i41 := by kernel_rfl
  t42 := Tryd.underlying125
  a42 := Tryd.isAgg125
  z42 := Tryd.sizeOf125
  v42 := Tryd.zeroValue125
  i42 := by kernel_rfl
  t43 := Tryd.underlying140
  a43 := Tryd.isAgg140
  z43 := Tryd.sizeOf140
  v43 := Tryd.zeroValue140
  i43 := by kernel_rfl
  t44 := Tryd.underlying141
  a44 := Tryd.isAgg141
  z44 := Tryd.sizeOf141
  v44 := Tryd.zeroValue141
  i44 := by kernel_rfl
  t45 := Tryd.underlying25
  a45 := Tryd.isAgg25
  z45 := Tryd.sizeOf25
  v45 := Tryd.zeroValue25
  i45 := by kernel_rfl
  t47 := Tryd.underlying85
  a47 := Tryd.isAgg85
  z47 := Tryd.sizeOf85
  v47 := Tryd.zeroValue85
  i47 := by kernel_rfl
  t48 := Tryd.underlying143
  a48 := Tryd.isAgg143
  z48 := Tryd.sizeOf143
  v48 := Tryd.zeroValue143
  i48 := by kernel_rfl
  g0 := by kernel_rfl
  m0 := by kernel_rfl
  g1 := by kernel_rfl
  m1 := by kernel_rfl
  g2 := by kernel_rfl
  m2 := by kernel_rfl
  g3 := by kernel_rfl
  m3 := by kernel_rfl
  g4 := by kernel_rfl
  m4 := by kernel_rfl
  g5 := by kernel_rfl
  m5 := by kernel_rfl
  g6 := by kernel_rfl
  m6 := by kernel_rfl }
open Go.RowKit Go.Sort in
theorem Tryd.NumError_Error (b o : Nat) (fn num q txt : ByteArray) (u : TypeId) (v0 : Value) (g : FuncId) (rv : Value) (w : World) (c0 : w.cell? ⟨b, o, none⟩ = some (.string fn)) (c1 : w.cell? ⟨b, o + 1, none⟩ = some (.string num)) (c2 : w.cell? ⟨b, o + 2, none⟩ = some (.iface u v0)) (hsum : fn.size + q.size + txt.size + 20 ≤ 9223372036854775807) (hQ : ∀ W, Below w.heap.size w W → Calls Tryd.prog 54 #[.string num] W fun e w' => e = .returned (.string q) ∧ Below W.heap.size W w') (hm : ∀ W, (method (Tryd.prog.types.size + 100) u v0 "Error").run Tryd.prog W = .ok (g, rv) W) (eg : ∀ args W, (callFunc g args).run Tryd.prog W = .ok (.enter g args) W) (hE : ∀ W, Below w.heap.size w W → Calls Tryd.prog g #[rv] W fun e w' => e = .returned (.string txt) ∧ Below W.heap.size W w') :
    Calls Tryd.prog 132 #[.pointer (some ⟨b, o, none⟩)] w fun e w' => e = .returned (.string ("strconv.".toUTF8 ++ fn ++ ": ".toUTF8 ++ "parsing ".toUTF8 ++ q ++ ": ".toUTF8 ++ txt)) ∧ Below w.heap.size w w' := Any.NumError_Error Tryd.laysFn4 b o fn num q txt u v0 g rv w c0 c1 c2 hsum hQ hm eg hE
def Tryd.laysM171_ren : Go.Shelf.Ren := ⟨fun | 171 => 9 | 243 => 24 | 246 => 39 | 283 => 48 | 284 => 49 | 285 => 50 | 286 => 51 | 129 => 62 | 317 => 61 | 318 => 63 | 319 => 64 | 320 => 65 | 337 => 82 | 338 => 83 | n => n, fun | 3 => 3 | 9 => 9 | 2 => 2 | 4 => 4 | 171 => 68 | 0 => 0 | 53 => 22 | 37 => 41 | 5 => 5 | 173 => 71 | 212 => 84 | 51 => 85 | 20 => 20 | 213 => 86 | 46 => 88 | 232 => 129 | 233 => 130 | n => n, fun | 17 => 1 | 18 => 4 | 19 => 5 | n => n⟩
theorem Tryd.laysM171 : Go.Proofs.LaysM.n171 Tryd.prog Tryd.laysM171_ren := {
  mixed := by kernel_rfl
  f129 := Tryd.func62.trans (congrArg some (by kernel_rfl))
  f171 := Tryd.func9.trans (congrArg some (by kernel_rfl))
  f243 := Tryd.func24.trans (congrArg some (by kernel_rfl))
  f246 := Tryd.func39.trans (congrArg some (by kernel_rfl))
  f283 := Tryd.func48.trans (congrArg some (by kernel_rfl))
  f284 := Tryd.func49.trans (congrArg some (by kernel_rfl))
  f285 := Tryd.func50.trans (congrArg some (by kernel_rfl))
  f286 := Tryd.func51.trans (congrArg some (by kernel_rfl))
  f317 := Tryd.func61.trans (congrArg some (by kernel_rfl))
  f318 := Tryd.func63.trans (congrArg some (by kernel_rfl))
  f319 := Tryd.func64.trans (congrArg some (by kernel_rfl))
  f320 := Tryd.func65.trans (congrArg some (by kernel_rfl))
  f337 := Tryd.func82.trans (congrArg some (by kernel_rfl))
  f338 := Tryd.func83.trans (congrArg some (by kernel_rfl))
  t0 := Tryd.underlying0
  a0 := Tryd.isAgg0
  z0 := Tryd.sizeOf0
  v0 := Tryd.zeroValue0
  t2 := Tryd.underlying2
  a2 := Tryd.isAgg2
  z2 := Tryd.sizeOf2
  v2 := Tryd.zeroValue2
  t3 := Tryd.underlying3
  a3 := Tryd.isAgg3
  z3 := Tryd.sizeOf3
  v3 := Tryd.zeroValue3
  t4 := Tryd.underlying4
  a4 := Tryd.isAgg4
  z4 := Tryd.sizeOf4
  v4 := Tryd.zeroValue4
  t5 := Tryd.underlying5
  a5 := Tryd.isAgg5
  z5 := Tryd.sizeOf5
  v5 := Tryd.zeroValue5
  t9 := Tryd.underlying9
  a9 := Tryd.isAgg9
  z9 := Tryd.sizeOf9
  v9 := Tryd.zeroValue9
  t20 := Tryd.underlying20
  a20 := Tryd.isAgg20
  z20 := Tryd.sizeOf20
  v20 := Tryd.zeroValue20
  t37 := Tryd.underlying41
  a37 := Tryd.isAgg41
  z37 := Tryd.sizeOf41
  v37 := Tryd.zeroValue41
  t46 := Tryd.underlying88
  a46 := Tryd.isAgg88
  z46 := Tryd.sizeOf88
  v46 := Tryd.zeroValue88
  t51 := Tryd.underlying85
  a51 := Tryd.isAgg85
  z51 := Tryd.sizeOf85
  v51 := Tryd.zeroValue85
  t53 := Tryd.underlying22
  a53 := Tryd.isAgg22
  z53 := Tryd.sizeOf22
  v53 := Tryd.zeroValue22
  t171 := Tryd.underlying68
  a171 := Tryd.isAgg68
  z171 := Tryd.sizeOf68
  v171 := Tryd.zeroValue68
  t173 := Tryd.underlying71
  a173 := Tryd.isAgg71
  z173 := Tryd.sizeOf71
  v173 := Tryd.zeroValue71
  t212 := Tryd.underlying84
  a212 := Tryd.isAgg84
  z212 := Tryd.sizeOf84
  v212 := Tryd.zeroValue84
  t213 := Tryd.underlying86
  a213 := Tryd.isAgg86
  z213 := Tryd.sizeOf86
  t232 := Tryd.underlying129
  a232 := Tryd.isAgg129
  z232 := Tryd.sizeOf129
  v232 := Tryd.zeroValue129
  t233 := Tryd.underlying130
  a233 := Tryd.isAgg130
  z233 := Tryd.sizeOf130
  v233 := Tryd.zeroValue130
  g17 := by kernel_rfl
  g18 := by kernel_rfl
  g19 := by kernel_rfl
  i0 := by kernel_rfl
  i2 := by kernel_rfl
  i3 := by kernel_rfl
  i4 := by kernel_rfl
  i5 := by kernel_rfl
  i9 := by kernel_rfl
  i20 := by kernel_rfl
  i37 := by kernel_rfl
  i46 := by kernel_rfl
  i51 := by kernel_rfl
  i53 := by kernel_rfl
  i171 := by kernel_rfl
  i173 := by kernel_rfl
  i212 := by kernel_rfl
  i232 := by kernel_rfl
  i233 := by kernel_rfl
  m17 := by kernel_rfl
  m18 := by kernel_rfl
  m19 := by kernel_rfl }
open Go.RowKit Go.Sort Go.Lib in
theorem Tryd.strconv_Itoa (n : Int) (h0 : -9223372036854775808 ≤ n) (h1 : n ≤ 9223372036854775807) (w : World) (htab : Lib.TabIs Tryd.prog w "internal/strconv.uint64pow10" .u64 Lib.pow10Tab) :
    Calls Tryd.prog 9 #[.int .i64 n] w fun e w' => e = .returned (.string ⟨(Lib.itoa n).toArray⟩) ∧ ∃ k os, w' = grow (w.drewN k) os := Any.strconv_Itoa Tryd.laysM171 n h0 h1 w htab
def Tryd.laysC172_ren : Go.Shelf.Ren := ⟨fun | 172 => 56 | 244 => 67 | 245 => 68 | 247 => 84 | 279 => 85 | 280 => 86 | 281 => 87 | 282 => 88 | 287 => 103 | 316 => 104 | 171 => 9 | 205 => 53 | 321 => 110 | 322 => 111 | 243 => 24 | 246 => 39 | 283 => 48 | 284 => 49 | 285 => 50 | 286 => 51 | 129 => 62 | 317 => 61 | 318 => 63 | 319 => 64 | 320 => 65 | 337 => 82 | 338 => 83 | n => n, fun | 9 => 9 | 3 => 3 | 75 => 44 | 76 => 75 | 4 => 4 | 5 => 5 | 167 => 110 | 37 => 41 | 0 => 0 | 85 => 111 | 2 => 2 | 168 => 113 | 53 => 22 | 175 => 131 | 46 => 88 | 210 => 134 | 127 => 116 | 145 => 92 | 143 => 90 | 21 => 21 | 171 => 68 | 173 => 71 | 212 => 84 | 51 => 85 | 20 => 20 | 213 => 86 | 232 => 129 | 233 => 130 | 80 => 46 | n => n, fun | 15 => 0 | 16 => 6 | 17 => 1 | 18 => 4 | 19 => 5 | n => n⟩
theorem Tryd.laysC172 : Go.Proofs.LaysC.n172 Tryd.prog Tryd.laysC172_ren := {
  mixed := by kernel_rfl
  f129 := Tryd.func62.trans (congrArg some (by kernel_rfl))
  f171 := Tryd.func9.trans (congrArg some (by kernel_rfl))
  f172 := Tryd.func56.trans (congrArg some (by kernel_rfl))
  f205 := Tryd.func53.trans (congrArg some (by kernel_rfl))
  f243 := Tryd.func24.trans (congrArg some (by kernel_rfl))
  f244 := Tryd.func67.trans (congrArg some (by kernel_rfl))
  f245 := Tryd.func68.trans (congrArg some (by kernel_rfl))
  f246 := Tryd.func39.trans (congrArg some (by kernel_rfl))
  f247 := Tryd.func84.trans (congrArg some (by kernel_rfl))
  f279 := Tryd.func85.trans (congrArg some (by kernel_rfl))
  f280 := Tryd.func86.trans (congrArg some (by kernel_rfl))
  f281 := Tryd.func87.trans (congrArg some (by kernel_rfl))
  f282 := Tryd.func88.trans (congrArg some (by kernel_rfl))
  f283 := Tryd.func48.trans (congrArg some (by kernel_rfl))
  f284 := Tryd.func49.trans (congrArg some (by kernel_rfl))
  f285 := Tryd.func50.trans (congrArg some (by kernel_rfl))
  f286 := Tryd.func51.trans (congrArg some (by kernel_rfl))
  f287 := Tryd.func103.trans (congrArg some (by kernel_rfl))
  f316 := Tryd.func104.trans (congrArg some (by kernel_rfl))
  f317 := Tryd.func61.trans (congrArg some (by kernel_rfl))
  f318 := Tryd.func63.trans (congrArg some (by kernel_rfl))
  f319 := Tryd.func64.trans (congrArg some (by kernel_rfl))
  f320 := Tryd.func65.trans (congrArg some (by kernel_rfl))
  f321 := Tryd.func110.trans (congrArg some (by kernel_rfl))
  f322 := Tryd.func111.trans (congrArg some (by kernel_rfl))
  f337 := Tryd.func82.trans (congrArg some (by kernel_rfl))
  f338 := Tryd.func83.trans (congrArg some (by kernel_rfl))
  t0 := Tryd.underlying0
  a0 := Tryd.isAgg0
  z0 := Tryd.sizeOf0
  v0 := Tryd.zeroValue0
  t2 := Tryd.underlying2
  a2 := Tryd.isAgg2
  z2 := Tryd.sizeOf2
  v2 := Tryd.zeroValue2
  t3 := Tryd.underlying3
  a3 := Tryd.isAgg3
  z3 := Tryd.sizeOf3
  v3 := Tryd.zeroValue3
  t4 := Tryd.underlying4
  a4 := Tryd.isAgg4
  z4 := Tryd.sizeOf4
  v4 := Tryd.zeroValue4
  t5 := Tryd.underlying5
  a5 := Tryd.isAgg5
  z5 := Tryd.sizeOf5
  v5 := Tryd.zeroValue5
  t9 := Tryd.underlying9
  a9 := Tryd.isAgg9
  z9 := Tryd.sizeOf9
  v9 := Tryd.zeroValue9
  t20 := Tryd.underlying20
  a20 := Tryd.isAgg20
  z20 := Tryd.sizeOf20
  v20 := Tryd.zeroValue20
  t21 := Tryd.underlying21
  a21 := Tryd.isAgg21
  z21 := Tryd.sizeOf21
  v21 := Tryd.zeroValue21
  t37 := Tryd.underlying41
  a37 := Tryd.isAgg41
  z37 := Tryd.sizeOf41
  v37 := Tryd.zeroValue41
  t46 := Tryd.underlying88
  a46 := Tryd.isAgg88
  z46 := Tryd.sizeOf88
  v46 := Tryd.zeroValue88
  t51 := Tryd.underlying85
  a51 := Tryd.isAgg85
  z51 := Tryd.sizeOf85
  v51 := Tryd.zeroValue85
  t53 := Tryd.underlying22
  a53 := Tryd.isAgg22
  z53 := Tryd.sizeOf22
  v53 := Tryd.zeroValue22
  t75 := Tryd.underlying44
  a75 := Tryd.isAgg44
  z75 := Tryd.sizeOf44
  v75 := Tryd.zeroValue44
  t76 := Tryd.underlying75
  a76 := Tryd.isAgg75
  z76 := Tryd.sizeOf75
  v76 := Tryd.zeroValue75
  t85 := Tryd.underlying111
  a85 := Tryd.isAgg111
  z85 := Tryd.sizeOf111
  v85 := Tryd.zeroValue111
  t127 := Tryd.underlying116
  a127 := Tryd.isAgg116
  z127 := Tryd.sizeOf116
  v127 := Tryd.zeroValue116
  t143 := Tryd.underlying90
  a143 := Tryd.isAgg90
  z143 := Tryd.sizeOf90
  v143 := Tryd.zeroValue90
  t145 := Tryd.underlying92
  a145 := Tryd.isAgg92
  z145 := Tryd.sizeOf92
  v145 := Tryd.zeroValue92
  t167 := Tryd.underlying110
  a167 := Tryd.isAgg110
  z167 := Tryd.sizeOf110
  v167 := Tryd.zeroValue110
  t168 := Tryd.underlying113
  a168 := Tryd.isAgg113
  z168 := Tryd.sizeOf113
  v168 := Tryd.zeroValue113
  t171 := Tryd.underlying68
  a171 := Tryd.isAgg68
  z171 := Tryd.sizeOf68
  v171 := Tryd.zeroValue68
  t173 := Tryd.underlying71
  a173 := Tryd.isAgg71
  z173 := Tryd.sizeOf71
  v173 := Tryd.zeroValue71
  t175 := Tryd.underlying131
  a175 := Tryd.isAgg131
  z175 := Tryd.sizeOf131
  v175 := Tryd.zeroValue131
  t210 := Tryd.underlying134
  a210 := Tryd.isAgg134
  z210 := Tryd.sizeOf134
  v210 := Tryd.zeroValue134
  t212 := Tryd.underlying84
  a212 := Tryd.isAgg84
  z212 := Tryd.sizeOf84
  v212 := Tryd.zeroValue84
  t213 := Tryd.underlying86
  a213 := Tryd.isAgg86
  z213 := Tryd.sizeOf86
  t232 := Tryd.underlying129
  a232 := Tryd.isAgg129
  z232 := Tryd.sizeOf129
  v232 := Tryd.zeroValue129
  t233 := Tryd.underlying130
  a233 := Tryd.isAgg130
  z233 := Tryd.sizeOf130
  v233 := Tryd.zeroValue130
  g15 := by kernel_rfl
  g16 := by kernel_rfl
  g17 := by kernel_rfl
  g18 := by kernel_rfl
  g19 := by kernel_rfl
  t80 := Tryd.underlying46
  a80 := Tryd.isAgg46
  z80 := Tryd.sizeOf46
  v80 := Tryd.zeroValue46
  i0 := by kernel_rfl
  i2 := by kernel_rfl
  i3 := by kernel_rfl
  i4 := by kernel_rfl
  i5 := by kernel_rfl
  i9 := by kernel_rfl
  i20 := by kernel_rfl
  i21 := by kernel_rfl
  i37 := by kernel_rfl
  i46 := by kernel_rfl
  i51 := by kernel_rfl
  i53 := by kernel_rfl
  i75 := by kernel_rfl
  i76 := by kernel_rfl
  i80 := by kernel_rfl
  i85 := by kernel_rfl
  i127 := by kernel_rfl
  i143 := by kernel_rfl
  i145 := by kernel_rfl
  i167 := by kernel_rfl
  i168 := by kernel_rfl
  i171 := by kernel_rfl
  i173 := by kernel_rfl
  i175 := by kernel_rfl
  i210 := by kernel_rfl
  i212 := by kernel_rfl
  i232 := by kernel_rfl
  i233 := by kernel_rfl
  m15 := by kernel_rfl
  m16 := by kernel_rfl
  m17 := by kernel_rfl
  m18 := by kernel_rfl
  m19 := by kernel_rfl
  c0 := by kernel_rfl
  c2 := by kernel_rfl
  c3 := by kernel_rfl
  c4 := by kernel_rfl
  c5 := by kernel_rfl
  c9 := by kernel_rfl
  c20 := by kernel_rfl
  c21 := by kernel_rfl
  c37 := by kernel_rfl
  c46 := by kernel_rfl
  c51 := by kernel_rfl
  c53 := by kernel_rfl
  c75 := by kernel_rfl
  c76 := by kernel_rfl
  c80 := by kernel_rfl
  c85 := by kernel_rfl
  c127 := by kernel_rfl
  c143 := by kernel_rfl
  c145 := by kernel_rfl
  c167 := by kernel_rfl
  c168 := by kernel_rfl
  c171 := by kernel_rfl
  c173 := by kernel_rfl
  c175 := by kernel_rfl
  c210 := by kernel_rfl
  c212 := by kernel_rfl
  c213 := by kernel_rfl
  c232 := by kernel_rfl
  c233 := by kernel_rfl }
open Go.RowKit in
theorem Tryd.strconv_Atoi_ok (s : ByteArray) (hmax : s.size ≤ 9223372036854775806) (v : Int) (h : Lib.atoiAll s.data.toList = .ok v) (w : World) :
    Calls Tryd.prog 56 #[.string s] w fun e w' => e = .returned (.tuple #[.int .i64 v, .nilIface]) ∧ (w' = w ∨ ∃ t, w' = Lib.bytesWorld w 5 t) := Any.strconv_Atoi_ok Tryd.laysC172 s hmax v h w
def Tryd.lays197_ren : Go.Shelf.Ren := ⟨fun | 197 => 78 | 260 => 97 | n => n, fun | 9 => 9 | 21 => 21 | 3 => 3 | 4 => 4 | 5 => 5 | 105 => 103 | 119 => 122 | 0 => 0 | 46 => 88 | 139 => 125 | 138 => 124 | n => n, fun | 3 => 2 | 4 => 3 | n => n⟩
theorem Tryd.lays197 : Go.Proofs.Lays.n197 Tryd.prog Tryd.lays197_ren := {
  mixed := by kernel_rfl
  f197 := Tryd.func78.trans (congrArg some (by kernel_rfl))
  f260 := Tryd.func97.trans (congrArg some (by kernel_rfl))
  t0 := Tryd.underlying0
  a0 := Tryd.isAgg0
  z0 := Tryd.sizeOf0
  v0 := Tryd.zeroValue0
  t3 := Tryd.underlying3
  a3 := Tryd.isAgg3
  z3 := Tryd.sizeOf3
  v3 := Tryd.zeroValue3
  t4 := Tryd.underlying4
  a4 := Tryd.isAgg4
  z4 := Tryd.sizeOf4
  v4 := Tryd.zeroValue4
  t5 := Tryd.underlying5
  a5 := Tryd.isAgg5
  z5 := Tryd.sizeOf5
  v5 := Tryd.zeroValue5
  t9 := Tryd.underlying9
  a9 := Tryd.isAgg9
  z9 := Tryd.sizeOf9
  v9 := Tryd.zeroValue9
  t21 := Tryd.underlying21
  a21 := Tryd.isAgg21
  z21 := Tryd.sizeOf21
  v21 := Tryd.zeroValue21
  t46 := Tryd.underlying88
  a46 := Tryd.isAgg88
  z46 := Tryd.sizeOf88
  v46 := Tryd.zeroValue88
  t105 := Tryd.underlying103
  a105 := Tryd.isAgg103
  z105 := Tryd.sizeOf103
  v105 := Tryd.zeroValue103
  t119 := Tryd.underlying122
  a119 := Tryd.isAgg122
  z119 := Tryd.sizeOf122
  t138 := Tryd.underlying124
  a138 := Tryd.isAgg124
  z138 := Tryd.sizeOf124
  v138 := Tryd.zeroValue124
  t139 := Tryd.underlying125
  a139 := Tryd.isAgg125
  z139 := Tryd.sizeOf125
  v139 := Tryd.zeroValue125
  g3 := by kernel_rfl
  g4 := by kernel_rfl }
open Go.RowKit Go.Lib in
theorem Tryd.utf8_DecodeRuneInString_ascii (s : ByteArray) (x : UInt8) (w : World) (h0 : s.data.toList[0]? = some x) (hx : x.toNat < 128) :
    Calls Tryd.prog 78 #[.string s] w fun e w' => e = .returned (.tuple #[.int .i32 x.toNat, .int .i64 1]) ∧ w' = w := Any.utf8_DecodeRuneInString_ascii Tryd.lays197 s x w h0 hx
def Tryd.lays260_ren : Go.Shelf.Ren := ⟨fun | 260 => 97 | n => n, fun | 9 => 9 | 21 => 21 | 3 => 3 | 4 => 4 | 5 => 5 | 119 => 122 | 0 => 0 | 46 => 88 | 139 => 125 | 138 => 124 | n => n, fun | 3 => 2 | 4 => 3 | n => n⟩
theorem Tryd.lays260 : Go.Proofs.Lays.n260 Tryd.prog Tryd.lays260_ren := {
  mixed := by kernel_rfl
  f260 := Tryd.func97.trans (congrArg some (by kernel_rfl))
  t0 := Tryd.underlying0
  a0 := Tryd.isAgg0
  z0 := Tryd.sizeOf0
  v0 := Tryd.zeroValue0
  t3 := Tryd.underlying3
  a3 := Tryd.isAgg3
  z3 := Tryd.sizeOf3
  v3 := Tryd.zeroValue3
  t4 := Tryd.underlying4
  a4 := Tryd.isAgg4
  z4 := Tryd.sizeOf4
  v4 := Tryd.zeroValue4
  t5 := Tryd.underlying5
  a5 := Tryd.isAgg5
  z5 := Tryd.sizeOf5
  v5 := Tryd.zeroValue5
  t9 := Tryd.underlying9
  a9 := Tryd.isAgg9
  z9 := Tryd.sizeOf9
  v9 := Tryd.zeroValue9
  t21 := Tryd.underlying21
  a21 := Tryd.isAgg21
  z21 := Tryd.sizeOf21
  v21 := Tryd.zeroValue21
  t46 := Tryd.underlying88
  a46 := Tryd.isAgg88
  z46 := Tryd.sizeOf88
  v46 := Tryd.zeroValue88
  t119 := Tryd.underlying122
  a119 := Tryd.isAgg122
  z119 := Tryd.sizeOf122
  t138 := Tryd.underlying124
  a138 := Tryd.isAgg124
  z138 := Tryd.sizeOf124
  v138 := Tryd.zeroValue124
  t139 := Tryd.underlying125
  a139 := Tryd.isAgg125
  z139 := Tryd.sizeOf125
  v139 := Tryd.zeroValue125
  g3 := by kernel_rfl
  g4 := by kernel_rfl }
open Go.RowKit Go.Lib in
theorem Tryd.utf8_DecodeRuneInString (s : ByteArray) (w : World) (hT : Lib.Utf8Tabs 2 3 w) :
    Calls Tryd.prog 78 #[.string s] w fun e w' => e = .returned (.tuple #[.int .i32 (Lib.decodeGo s).1, .int .i64 (Lib.decodeGo s).2]) ∧ Below w.heap.size w w' := Any.utf8_DecodeRuneInString Tryd.lays197 s w hT
def Tryd.lays196_ren : Go.Shelf.Ren := ⟨fun | 196 => 77 | 259 => 96 | n => n, fun | 9 => 9 | 4 => 4 | 3 => 3 | 5 => 5 | 12 => 12 | 119 => 122 | 0 => 0 | 46 => 88 | 139 => 125 | 138 => 124 | 53 => 22 | n => n, fun | 3 => 2 | 4 => 3 | n => n⟩
theorem Tryd.lays196 : Go.Proofs.Lays.n196 Tryd.prog Tryd.lays196_ren := {
  mixed := by kernel_rfl
  f196 := Tryd.func77.trans (congrArg some (by kernel_rfl))
  f259 := Tryd.func96.trans (congrArg some (by kernel_rfl))
  t0 := Tryd.underlying0
  a0 := Tryd.isAgg0
  z0 := Tryd.sizeOf0
  v0 := Tryd.zeroValue0
  t3 := Tryd.underlying3
  a3 := Tryd.isAgg3
  z3 := Tryd.sizeOf3
  v3 := Tryd.zeroValue3
  t4 := Tryd.underlying4
  a4 := Tryd.isAgg4
  z4 := Tryd.sizeOf4
  v4 := Tryd.zeroValue4
  t5 := Tryd.underlying5
  a5 := Tryd.isAgg5
  z5 := Tryd.sizeOf5
  v5 := Tryd.zeroValue5
  t9 := Tryd.underlying9
  a9 := Tryd.isAgg9
  z9 := Tryd.sizeOf9
  v9 := Tryd.zeroValue9
  t12 := Tryd.underlying12
  a12 := Tryd.isAgg12
  z12 := Tryd.sizeOf12
  v12 := Tryd.zeroValue12
  t46 := Tryd.underlying88
  a46 := Tryd.isAgg88
  z46 := Tryd.sizeOf88
  v46 := Tryd.zeroValue88
  t53 := Tryd.underlying22
  a53 := Tryd.isAgg22
  z53 := Tryd.sizeOf22
  v53 := Tryd.zeroValue22
  t119 := Tryd.underlying122
  a119 := Tryd.isAgg122
  z119 := Tryd.sizeOf122
  t138 := Tryd.underlying124
  a138 := Tryd.isAgg124
  z138 := Tryd.sizeOf124
  v138 := Tryd.zeroValue124
  t139 := Tryd.underlying125
  a139 := Tryd.isAgg125
  z139 := Tryd.sizeOf125
  v139 := Tryd.zeroValue125
  g3 := by kernel_rfl
  g4 := by kernel_rfl }
open Go.RowKit Go.Lib in
/-- unicode/utf8.ValidString at every string. -/
theorem Tryd.utf8_ValidString (s : ByteArray) (w : World) (hs : s.size ≤ 9223372036854775807) (hT : Lib.Utf8Tabs 2 3 w) :
    Calls Tryd.prog 77 #[.string s] w fun e w' => e = .returned (.bool (Lib.validD s.data.toList)) ∧ Below w.heap.size w w' := Any.utf8_ValidString Tryd.lays196 s w hs hT
end Go.Proofs

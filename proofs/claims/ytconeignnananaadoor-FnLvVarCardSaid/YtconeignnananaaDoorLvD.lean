/- What the listed variables are good for: the table of the powers of ten, the tables of what is printed, those of UTF-8. -/
import Derived.Test.YtconeignnananaaDoorLvC
import Derived.Test.YtconeignnananaaDoorTie
import Derived.Test.YtconeignnananaaDoorCards
import Derived.Lib.LaidTab
import Derived.Lib.LaidPrint
import Derived.Lib.LaidU8T
import Derived.PinnedBridge
import Derived.ProofKit
import Derived.OpenShut
import Derived.LaidMore
import Derived.Lay
import Derived.SevenTiedAt
import Derived.Stop.Joined
namespace Go.Proofs.YtconeignnananaaDoor.Lv
set_option linter.unusedVariables false
set_option linter.unusedSimpArgs false
open Go Go.Lib Go.RowKit

theorem pow_eq : (Rows.laid_internal_strconv_uint64pow10 : DataW Unit) = tabData .u64 pow10Tab := by kernel_rfl

theorem pow_of {l : List (String × DataW Unit)} {W : World} (h : laidMet Tryd.prog l W) (m : ("internal/strconv.uint64pow10", (Rows.laid_internal_strconv_uint64pow10 : DataW Unit)) ∈ l) : Pow W := by
  obtain ⟨g, t, cs, fuel, p, hg, ht, hv, hd⟩ := Lib.laidMet.reads h m
  obtain rfl := Option.some.inj ((show Tryd.prog.globalNamed "internal/strconv.uint64pow10" = some 1 by kernel_rfl).symm.trans hg)
  obtain rfl := Option.some.inj ((show (Tryd.prog.globals[1]?).map (·.type) = some 84 by kernel_rfl).symm.trans ht)
  have c22 : Tryd.prog.cellsOf 22 = 1 := by kernel_rfl
  have c84 : Tryd.prog.cellsOf 84 = 20 := by kernel_rfl
  rw [pow_eq] at hd
  unfold Pow TabIs
  rw [hv, ← cells_of_tab Tryd.underlying84 Tryd.underlying22 c22 c84 hd]

theorem xP : PrintExtra Tryd.prog Tryd.lays339_ren := ⟨by kernel_rfl, by kernel_rfl, by kernel_rfl, by kernel_rfl, by kernel_rfl, by kernel_rfl, by kernel_rfl, by kernel_rfl, by kernel_rfl, by kernel_rfl⟩
theorem print_of {l : List (String × DataW Unit)} {W : World} (h : laidMet Tryd.prog l W) (m0 : ("strconv.isPrint16", Rows.laid_strconv_isPrint16) ∈ l) (m1 : ("strconv.isNotPrint16", Rows.laid_strconv_isNotPrint16) ∈ l)
    (m2 : ("strconv.isPrint32", Rows.laid_strconv_isPrint32) ∈ l) (m3 : ("strconv.isNotPrint32", Rows.laid_strconv_isNotPrint32) ∈ l) : PrintTabsAt 9 10 11 12 goPrintTabs W :=
  printTabs_of_reads Tryd.lays339 xP (Pinned.isPrint16_eq ▸ Lib.laidMet.reads h m0) (Pinned.isNotPrint16_eq ▸ Lib.laidMet.reads h m1) (Pinned.isPrint32_eq ▸ Lib.laidMet.reads h m2) (Pinned.isNotPrint32_eq ▸ Lib.laidMet.reads h m3)

theorem x8 : U8Extra Tryd.prog Tryd.lays260_ren := ⟨by kernel_rfl, by kernel_rfl, by kernel_rfl, by kernel_rfl, by kernel_rfl, by kernel_rfl, by kernel_rfl⟩
theorem acc_eq : (Rows.laid_unicode_utf8_acceptRanges : DataW Unit) = acceptData := by kernel_rfl
theorem utf8_of {l : List (String × DataW Unit)} {W : World} (h : laidMet Tryd.prog l W) (m0 : ("unicode/utf8.first", Rows.laid_unicode_utf8_first) ∈ l) (m1 : ("unicode/utf8.acceptRanges", (Rows.laid_unicode_utf8_acceptRanges : DataW Unit)) ∈ l) : Utf8Tabs 2 3 W :=
  utf8Tabs_of_readsT (U8Types.of260 Tryd.lays260) x8 (Pinned.utf8First_eq ▸ Lib.laidMet.reads h m0) (acc_eq ▸ Lib.laidMet.reads h m1)

theorem i64_ge {n : Int} (h : (Lit.int .i64 n).wf = true) : -9223372036854775808 ≤ n := by
  simp only [Lit.wf, IntKind.min, IntKind.max, IntKind.signed, IntKind.bits, Bool.and_eq_true, decide_eq_true_eq, if_true] at h
  omega
theorem i64_le {n : Int} (h : (Lit.int .i64 n).wf = true) : n ≤ 9223372036854775807 := by
  simp only [Lit.wf, IntKind.min, IntKind.max, IntKind.signed, IntKind.bits, Bool.and_eq_true, decide_eq_true_eq, if_true] at h
  omega
theorem u64_le {n : Int} (h : (Lit.int .u64 n).wf = true) : 0 ≤ n ∧ n ≤ 18446744073709551615 := by
  simp only [Lit.wf, IntKind.min, IntKind.max, IntKind.signed, IntKind.bits, Bool.and_eq_true, decide_eq_true_eq, if_false, Bool.false_eq_true] at h
  omega
theorem u8_le {n : Int} (h : (Lit.int .u8 n).wf = true) : 0 ≤ n ∧ n ≤ 255 := by
  simp only [Lit.wf, IntKind.min, IntKind.max, IntKind.signed, IntKind.bits, Bool.and_eq_true, decide_eq_true_eq, if_false, Bool.false_eq_true] at h
  omega

theorem own : ownKnob Tryd.prog.godebug = none := by kernel_rfl
theorem laidOut : laidOutB Tryd.prog = true := by kernel_rfl

end Go.Proofs.YtconeignnananaaDoor.Lv

/- The table kindStrings as the program's text lays it. -/
import Derived.Test.YtcgdnjigocknbaaDoorKTab
import Derived.Test.YtcgdnjigocknbaaDoorRows
import Derived.LaidMore
import Derived.Lay
import Derived.Lib.LaidU8
namespace Go.Proofs.YtcgdnjigocknbaaDoor.Va
open Go Go.RowKit Go.ChangeShapes Go.WideShapes

theorem gK : Tryd.prog.globalNamed "pub-jottings/pub/slog.kindStrings" = some 1 := by kernel_rfl
theorem ktab_of {L : List (String × DataW Unit)} {W : World} (h : laidMet Tryd.prog L W) (hm : ("pub-jottings/pub/slog.kindStrings", Rows.laid_pub_jottings_pub_slog_kindStrings) ∈ L) : KTab W := by
  intro i hi
  obtain ⟨g, t, cs, fuel, p, hg, ht, hv, hd⟩ := Lib.laidMet.reads h hm
  obtain rfl := Option.some.inj (gK.symm.trans hg)
  obtain rfl := Option.some.inj ((show (Tryd.prog.globals[1]?).map (·.type) = some 128 by kernel_rfl).symm.trans ht)
  have c9 : Tryd.prog.cellsOf 9 = 1 := by kernel_rfl
  obtain ⟨fuel', d, q, hds, hE⟩ := Lib.array_elem Tryd.underlying128 hd i hi
  rw [c9, Nat.mul_one] at hE
  obtain ⟨s, e1, e2, _⟩ := DataW.trod_string Tryd.underlying9 hE
  rw [World.var?_cell hg hv i]
  have hc : cs.toList[i]? = some (.string s) := by
    have h0 : ((cs.toList.drop i).take 1)[0]? = some (.string s) := by rw [e1]; rfl
    simpa using h0
  have hs : nameAt i = .string s := by
    obtain ⟨rfl, rfl⟩ := Prod.mk.inj e2
    match i, hi with
    | 0, _ | 1, _ | 2, _ | 3, _ | 4, _ | 5, _ | 6, _ | 7, _ | 8, _ | 9, _ =>
      all_goals
        simp only [List.getElem?_cons_zero, List.getElem?_cons_succ, Option.some.injEq, DataW.lit.injEq, Lit.string.injEq] at hds
        simp [nameAt, names, hds]
  rw [hs]
  simpa using hc

end Go.Proofs.YtcgdnjigocknbaaDoor.Va

/- Vals in a row, and in boxes. -/
import Derived.Test.YtdeomgfapffidaaGreatDoorLeft
import Derived.Test.YtdeomgfapffidaaGreatDoorBox
namespace Go.Proofs.YtdeomgfapffidaaGreatDoor.Va
set_option linter.unusedVariables false
set_option linter.unusedSimpArgs false
open Go Go.RowKit

theorem rvs1 {w wx : World} {t : TypeId} {da : GVal} {A : Option Addr} {len cap : Nat} (hk : Keeps w wx) (ha : RS w da.l A len) :
    RVs (wx.alloc (.cells #[.int .i64 da.kind, .int .u64 da.n, .string da.s, .int .i64 da.t.sec, .int .i64 da.t.nsec, .int .i64 da.t.off, .slice A len cap] t)) [da] wx.heap.size 0 := by
  have ha' := (ha.keep hk).keep (keeps_alloc wx (.cells #[.int .i64 da.kind, .int .u64 da.n, .string da.s, .int .i64 da.t.sec, .int .i64 da.t.nsec, .int .i64 da.t.off, .slice A len cap] t))
  obtain ⟨k, n, s, ti, l⟩ := da
  unfold RVs RVs RVal
  simp only [kind_mk, n_mk, s_mk, t_mk, l_mk] at ha' ⊢
  exact ⟨⟨cell_new _ _ _ _ _ _ rfl rfl, cell_new _ _ _ _ _ _ rfl rfl, cell_new _ _ _ _ _ _ rfl rfl, cell_new _ _ _ _ _ _ rfl rfl, cell_new _ _ _ _ _ _ rfl rfl, cell_new _ _ _ _ _ _ rfl rfl, A, len, cap, cell_new _ _ _ _ _ _ rfl rfl, ha'.1, ha'.2⟩, trivial⟩

theorem cells14 {da db : GVal} {A A' : Option Addr} {len cap len' cap' : Nat} {wx : World} {ba bb : Nat} (h : Box wx ba da A len cap ∧ Box wx bb db A' len' cap') :
    wx.cell? ⟨ba, 0, none⟩ = some (.int .i64 da.kind) ∧ wx.cell? ⟨ba, 1, none⟩ = some (.int .u64 da.n) ∧ wx.cell? ⟨ba, 2, none⟩ = some (.string da.s) ∧ wx.cell? ⟨ba, 3, none⟩ = some (.int .i64 da.t.sec) ∧ wx.cell? ⟨ba, 4, none⟩ = some (.int .i64 da.t.nsec) ∧ wx.cell? ⟨ba, 5, none⟩ = some (.int .i64 da.t.off) ∧ wx.cell? ⟨ba, 6, none⟩ = some (.slice A len cap) ∧
    wx.cell? ⟨bb, 0, none⟩ = some (.int .i64 db.kind) ∧ wx.cell? ⟨bb, 1, none⟩ = some (.int .u64 db.n) ∧ wx.cell? ⟨bb, 2, none⟩ = some (.string db.s) ∧ wx.cell? ⟨bb, 3, none⟩ = some (.int .i64 db.t.sec) ∧ wx.cell? ⟨bb, 4, none⟩ = some (.int .i64 db.t.nsec) ∧ wx.cell? ⟨bb, 5, none⟩ = some (.int .i64 db.t.off) ∧ wx.cell? ⟨bb, 6, none⟩ = some (.slice A' len' cap') := by
  obtain ⟨⟨a0, a1, a2, a3, a4, a5, a6⟩, b0, b1, b2, b3, b4, b5, b6⟩ := h
  exact ⟨a0, a1, a2, a3, a4, a5, a6, b0, b1, b2, b3, b4, b5, b6⟩

end Go.Proofs.YtdeomgfapffidaaGreatDoor.Va

/- spec.VaResolve: the walk. -/
import Derived.Test.YtdeomgfapffidaaGreatDoorResP
import Derived.Test.YtdeomgfapffidaaGreatDoorTidyC
import Derived.Test.YtdeomgfapffidaaGreatDoorIRes
namespace Go.Proofs.YtdeomgfapffidaaGreatDoor.Va
set_option linter.unusedVariables false
set_option linter.unusedSimpArgs false
open Go Go.RowKit

/-- The result of spec.VaResolve: its cells. -/
def vRes (d : GVal) (A : Option Addr) (len cap : Nat) (calls : Int) (p m : Bool) : Value := .agg #[.int .i64 d.kind, .int .u64 d.n, .string d.s, .int .i64 d.t.sec, .int .i64 d.t.nsec, .int .i64 d.t.off, .slice A len cap, .int .i64 calls, .bool p, .bool m]
def specVal : OutD → GVal
  | .val d _ => vaTidy d
  | _ => GVal.zero
def specCalls : OutD → Nat
  | .val _ c => c
  | .pan c => c
  | .much => 100
def specPan : OutD → Bool
  | .pan _ => true
  | _ => false
def specMuch : OutD → Bool
  | .much => true
  | _ => false
def SResPost (o : OutD) (w : World) (e : Ending) (w' : World) : Prop := ∃ A len cap, e = .returned (vRes (specVal o) A len cap (specCalls o) (specPan o) (specMuch o)) ∧ RSP (New w) w' (specVal o).l A len ∧ Below w.heap.size w w'

/-- The value's box, and the result's. -/
def BxR (w : World) (x : GVal) (A : Option Addr) (len cap : Nat) (wr : World) : Prop :=
  (wr.cell? ⟨w.heap.size, 0, none⟩ = some (.int .i64 x.kind) ∧ wr.cell? ⟨w.heap.size, 1, none⟩ = some (.int .u64 x.n) ∧ wr.cell? ⟨w.heap.size, 2, none⟩ = some (.string x.s) ∧ wr.cell? ⟨w.heap.size, 3, none⟩ = some (.int .i64 x.t.sec) ∧ wr.cell? ⟨w.heap.size, 4, none⟩ = some (.int .i64 x.t.nsec) ∧ wr.cell? ⟨w.heap.size, 5, none⟩ = some (.int .i64 x.t.off) ∧ wr.cell? ⟨w.heap.size, 6, none⟩ = some (.slice A len cap)) ∧
  (∀ o, o < 7 → wr.frozen? ⟨w.heap.size, o, none⟩ = false) ∧
  (wr.cell? ⟨w.heap.size + 1, 0, none⟩ = some (.int .i64 0) ∧ wr.cell? ⟨w.heap.size + 1, 1, none⟩ = some (.int .u64 0) ∧ wr.cell? ⟨w.heap.size + 1, 2, none⟩ = some (.string ByteArray.empty) ∧ wr.cell? ⟨w.heap.size + 1, 3, none⟩ = some (.int .i64 0) ∧ wr.cell? ⟨w.heap.size + 1, 4, none⟩ = some (.int .i64 0) ∧ wr.cell? ⟨w.heap.size + 1, 5, none⟩ = some (.int .i64 0) ∧ wr.cell? ⟨w.heap.size + 1, 6, none⟩ = some (.slice none 0 0) ∧ wr.cell? ⟨w.heap.size + 1, 7, none⟩ = some (.int .i64 0) ∧ wr.cell? ⟨w.heap.size + 1, 8, none⟩ = some (.bool false) ∧ wr.cell? ⟨w.heap.size + 1, 9, none⟩ = some (.bool false)) ∧
  (∀ o, o < 10 → wr.frozen? ⟨w.heap.size + 1, o, none⟩ = false) ∧ w.heap.size + 1 < wr.heap.size

/-- One round. -/
def SResRnd (d : GVal) (w : World) (s6 : Value) (wr : World) : Prop :=
  ∃ (i : Nat) (di : GVal) (A : Option Addr) (len cap : Nat), i ≤ 100 ∧ s6 = .int .i64 i ∧ resolveD 100 d 0 = resolveD (100 - i) di i ∧ GoodD di ∧ BxR w (vaTidy di) A len cap wr ∧ RSP (fun b => w.heap.size + 1 + 1 ≤ b) wr (vaTidy di).l A len ∧ Below w.heap.size w wr

--BODY
theorem below_set10 {B : Nat} {a w : World} (h : Below B a w) {c : Nat} (hc : B ≤ c) (v0 v1 v2 v3 v4 v5 v6 v7 v8 v9 : Value) : Below B a ((((((((((w.setCell ⟨c, 0, none⟩ v0).setCell ⟨c, 1, none⟩ v1).setCell ⟨c, 2, none⟩ v2).setCell ⟨c, 3, none⟩ v3).setCell ⟨c, 4, none⟩ v4).setCell ⟨c, 5, none⟩ v5).setCell ⟨c, 6, none⟩ v6).setCell ⟨c, 7, none⟩ v7).setCell ⟨c, 8, none⟩ v8).setCell ⟨c, 9, none⟩ v9) :=
  (((((((((h.setCell hc _).setCell hc _).setCell hc _).setCell hc _).setCell hc _).setCell hc _).setCell hc _).setCell hc _).setCell hc _).setCell hc _
theorem keepsOn_set10 {P : Nat → Prop} {w : World} {c : Nat} (hc : ∀ b, P b → b ≠ c) (v0 v1 v2 v3 v4 v5 v6 v7 v8 v9 : Value) : KeepsOn P w ((((((((((w.setCell ⟨c, 0, none⟩ v0).setCell ⟨c, 1, none⟩ v1).setCell ⟨c, 2, none⟩ v2).setCell ⟨c, 3, none⟩ v3).setCell ⟨c, 4, none⟩ v4).setCell ⟨c, 5, none⟩ v5).setCell ⟨c, 6, none⟩ v6).setCell ⟨c, 7, none⟩ v7).setCell ⟨c, 8, none⟩ v8).setCell ⟨c, 9, none⟩ v9) :=
  ((((((((((KeepsOn.refl _ _).setCell hc _).setCell hc _).setCell hc _).setCell hc _).setCell hc _).setCell hc _).setCell hc _).setCell hc _).setCell hc _).setCell hc _
theorem set7_own {w : World} {c : Nat} {u0 u1 u2 u3 u4 u5 u6 : Value} (v0 v1 v2 v3 v4 v5 v6 : Value) (h0 : w.cell? ⟨c, 0, none⟩ = some u0) (h1 : w.cell? ⟨c, 1, none⟩ = some u1) (h2 : w.cell? ⟨c, 2, none⟩ = some u2) (h3 : w.cell? ⟨c, 3, none⟩ = some u3) (h4 : w.cell? ⟨c, 4, none⟩ = some u4) (h5 : w.cell? ⟨c, 5, none⟩ = some u5) (h6 : w.cell? ⟨c, 6, none⟩ = some u6) :
    (((((((w.setCell ⟨c, 0, none⟩ v0).setCell ⟨c, 1, none⟩ v1).setCell ⟨c, 2, none⟩ v2).setCell ⟨c, 3, none⟩ v3).setCell ⟨c, 4, none⟩ v4).setCell ⟨c, 5, none⟩ v5).setCell ⟨c, 6, none⟩ v6).cell? ⟨c, 0, none⟩ = some v0 ∧ (((((((w.setCell ⟨c, 0, none⟩ v0).setCell ⟨c, 1, none⟩ v1).setCell ⟨c, 2, none⟩ v2).setCell ⟨c, 3, none⟩ v3).setCell ⟨c, 4, none⟩ v4).setCell ⟨c, 5, none⟩ v5).setCell ⟨c, 6, none⟩ v6).cell? ⟨c, 1, none⟩ = some v1 ∧ (((((((w.setCell ⟨c, 0, none⟩ v0).setCell ⟨c, 1, none⟩ v1).setCell ⟨c, 2, none⟩ v2).setCell ⟨c, 3, none⟩ v3).setCell ⟨c, 4, none⟩ v4).setCell ⟨c, 5, none⟩ v5).setCell ⟨c, 6, none⟩ v6).cell? ⟨c, 2, none⟩ = some v2 ∧ (((((((w.setCell ⟨c, 0, none⟩ v0).setCell ⟨c, 1, none⟩ v1).setCell ⟨c, 2, none⟩ v2).setCell ⟨c, 3, none⟩ v3).setCell ⟨c, 4, none⟩ v4).setCell ⟨c, 5, none⟩ v5).setCell ⟨c, 6, none⟩ v6).cell? ⟨c, 3, none⟩ = some v3 ∧ (((((((w.setCell ⟨c, 0, none⟩ v0).setCell ⟨c, 1, none⟩ v1).setCell ⟨c, 2, none⟩ v2).setCell ⟨c, 3, none⟩ v3).setCell ⟨c, 4, none⟩ v4).setCell ⟨c, 5, none⟩ v5).setCell ⟨c, 6, none⟩ v6).cell? ⟨c, 4, none⟩ = some v4 ∧ (((((((w.setCell ⟨c, 0, none⟩ v0).setCell ⟨c, 1, none⟩ v1).setCell ⟨c, 2, none⟩ v2).setCell ⟨c, 3, none⟩ v3).setCell ⟨c, 4, none⟩ v4).setCell ⟨c, 5, none⟩ v5).setCell ⟨c, 6, none⟩ v6).cell? ⟨c, 5, none⟩ = some v5 ∧ (((((((w.setCell ⟨c, 0, none⟩ v0).setCell ⟨c, 1, none⟩ v1).setCell ⟨c, 2, none⟩ v2).setCell ⟨c, 3, none⟩ v3).setCell ⟨c, 4, none⟩ v4).setCell ⟨c, 5, none⟩ v5).setCell ⟨c, 6, none⟩ v6).cell? ⟨c, 6, none⟩ = some v6 := by
  have ne : ∀ i j : Nat, i ≠ j → (⟨c, i, none⟩ : Addr) ≠ ⟨c, j, none⟩ := by intro i j h e; injection e with _ e; exact h e
  have so : ∀ (w : World) (i j : Nat) (v : Value), i ≠ j → (w.setCell ⟨c, i, none⟩ v).cell? ⟨c, j, none⟩ = w.cell? ⟨c, j, none⟩ := fun w i j v h => World.cell?_setCell_other _ _ _ _ (ne i j h)
  have ss : ∀ (w : World) (i : Nat) (v u : Value), w.cell? ⟨c, i, none⟩ = some u → (w.setCell ⟨c, i, none⟩ v).cell? ⟨c, i, none⟩ = some v := fun w i v u h => World.cell?_setCell_same _ _ _ h
  refine ⟨?_, ?_, ?_, ?_, ?_, ?_, ?_⟩
  · rw [so _ 6 0 _ (by decide), so _ 5 0 _ (by decide), so _ 4 0 _ (by decide), so _ 3 0 _ (by decide), so _ 2 0 _ (by decide), so _ 1 0 _ (by decide)]; exact ss _ 0 _ _ h0
  · rw [so _ 6 1 _ (by decide), so _ 5 1 _ (by decide), so _ 4 1 _ (by decide), so _ 3 1 _ (by decide), so _ 2 1 _ (by decide)]; exact ss _ 1 _ u1 (by rw [so _ 0 1 _ (by decide)]; exact h1)
  · rw [so _ 6 2 _ (by decide), so _ 5 2 _ (by decide), so _ 4 2 _ (by decide), so _ 3 2 _ (by decide)]; exact ss _ 2 _ u2 (by rw [so _ 1 2 _ (by decide), so _ 0 2 _ (by decide)]; exact h2)
  · rw [so _ 6 3 _ (by decide), so _ 5 3 _ (by decide), so _ 4 3 _ (by decide)]; exact ss _ 3 _ u3 (by rw [so _ 2 3 _ (by decide), so _ 1 3 _ (by decide), so _ 0 3 _ (by decide)]; exact h3)
  · rw [so _ 6 4 _ (by decide), so _ 5 4 _ (by decide)]; exact ss _ 4 _ u4 (by rw [so _ 3 4 _ (by decide), so _ 2 4 _ (by decide), so _ 1 4 _ (by decide), so _ 0 4 _ (by decide)]; exact h4)
  · rw [so _ 6 5 _ (by decide)]; exact ss _ 5 _ u5 (by rw [so _ 4 5 _ (by decide), so _ 3 5 _ (by decide), so _ 2 5 _ (by decide), so _ 1 5 _ (by decide), so _ 0 5 _ (by decide)]; exact h5)
  · exact ss _ 6 _ u6 (by rw [so _ 5 6 _ (by decide), so _ 4 6 _ (by decide), so _ 3 6 _ (by decide), so _ 2 6 _ (by decide), so _ 1 6 _ (by decide), so _ 0 6 _ (by decide)]; exact h6)
theorem frozen_set7 {w : World} {c : Nat} (v0 v1 v2 v3 v4 v5 v6 : Value) (p : Addr) : (((((((w.setCell ⟨c, 0, none⟩ v0).setCell ⟨c, 1, none⟩ v1).setCell ⟨c, 2, none⟩ v2).setCell ⟨c, 3, none⟩ v3).setCell ⟨c, 4, none⟩ v4).setCell ⟨c, 5, none⟩ v5).setCell ⟨c, 6, none⟩ v6).frozen? p = w.frozen? p := by
  simp only [World.frozen?_setCell]
theorem BxR.set7 {w wr : World} {x : GVal} {A : Option Addr} {len cap : Nat} (h : BxR w x A len cap wr) (x' : GVal) (A' : Option Addr) (len' cap' : Nat) :
    BxR w x' A' len' cap' (((((((wr.setCell ⟨w.heap.size, 0, none⟩ (.int .i64 x'.kind)).setCell ⟨w.heap.size, 1, none⟩ (.int .u64 x'.n)).setCell ⟨w.heap.size, 2, none⟩ (.string x'.s)).setCell ⟨w.heap.size, 3, none⟩ (.int .i64 x'.t.sec)).setCell ⟨w.heap.size, 4, none⟩ (.int .i64 x'.t.nsec)).setCell ⟨w.heap.size, 5, none⟩ (.int .i64 x'.t.off)).setCell ⟨w.heap.size, 6, none⟩ (.slice A' len' cap')) := by
  obtain ⟨⟨a0, a1, a2, a3, a4, a5, a6⟩, fa, ⟨b0, b1, b2, b3, b4, b5, b6, b7, b8, b9⟩, fb, hz⟩ := h
  refine ⟨set7_own _ _ _ _ _ _ _ a0 a1 a2 a3 a4 a5 a6, fun o ho => by rw [frozen_set7]; exact fa o ho, ⟨(cell_set7 (by omega) _ _ _ _ _ _ _ _).trans b0, (cell_set7 (by omega) _ _ _ _ _ _ _ _).trans b1, (cell_set7 (by omega) _ _ _ _ _ _ _ _).trans b2, (cell_set7 (by omega) _ _ _ _ _ _ _ _).trans b3, (cell_set7 (by omega) _ _ _ _ _ _ _ _).trans b4, (cell_set7 (by omega) _ _ _ _ _ _ _ _).trans b5, (cell_set7 (by omega) _ _ _ _ _ _ _ _).trans b6, (cell_set7 (by omega) _ _ _ _ _ _ _ _).trans b7, (cell_set7 (by omega) _ _ _ _ _ _ _ _).trans b8, (cell_set7 (by omega) _ _ _ _ _ _ _ _).trans b9⟩, fun o ho => by rw [frozen_set7]; exact fb o ho, by simpa using hz⟩
theorem BxR.below {w wr w1 : World} {x : GVal} {A : Option Addr} {len cap : Nat} (h : BxR w x A len cap wr) (hb : Below wr.heap.size wr w1) : BxR w x A len cap w1 := by
  obtain ⟨⟨a0, a1, a2, a3, a4, a5, a6⟩, fa, ⟨b0, b1, b2, b3, b4, b5, b6, b7, b8, b9⟩, fb, hz⟩ := h
  have k := keeps_of_below hb
  have hs := hb.size
  exact ⟨⟨k.cell a0, k.cell a1, k.cell a2, k.cell a3, k.cell a4, k.cell a5, k.cell a6⟩, fun o ho => (hb.frozen (p := ⟨w.heap.size, o, none⟩) (by show w.heap.size < _; omega)).trans (fa o ho), ⟨k.cell b0, k.cell b1, k.cell b2, k.cell b3, k.cell b4, k.cell b5, k.cell b6, k.cell b7, k.cell b8, k.cell b9⟩, fun o ho => (hb.frozen (p := ⟨w.heap.size + 1, o, none⟩) hz).trans (fb o ho), by omega⟩
theorem BxR.setN {w wr : World} {k n n' : Int} {s : ByteArray} {t : GTime} {l : GAttrs} {A : Option Addr} {len cap : Nat} (h : BxR w (.mk k n s t l) A len cap wr) :
    BxR w (.mk k n' s t l) A len cap (wr.setCell ⟨w.heap.size, 1, none⟩ (.int .u64 n')) := by
  obtain ⟨⟨a0, a1, a2, a3, a4, a5, a6⟩, fa, ⟨b0, b1, b2, b3, b4, b5, b6, b7, b8, b9⟩, fb, hz⟩ := h
  have ne : ∀ j : Nat, j ≠ 1 → (⟨w.heap.size, 1, none⟩ : Addr) ≠ ⟨w.heap.size, j, none⟩ := by intro j h e; injection e with _ e; exact h e.symm
  have ne2 : ∀ j : Nat, (⟨w.heap.size, 1, none⟩ : Addr) ≠ ⟨w.heap.size + 1, j, none⟩ := by intro j e; injection e with e; omega
  refine ⟨⟨?_, World.cell?_setCell_same _ _ _ a1, ?_, ?_, ?_, ?_, ?_⟩, fun o ho => by rw [World.frozen?_setCell]; exact fa o ho, ⟨?_, ?_, ?_, ?_, ?_, ?_, ?_, ?_, ?_, ?_⟩, fun o ho => by rw [World.frozen?_setCell]; exact fb o ho, by simpa using hz⟩
  · rw [World.cell?_setCell_other _ _ _ _ (ne _ (by decide))]; exact a0
  · rw [World.cell?_setCell_other _ _ _ _ (ne _ (by decide))]; exact a2
  · rw [World.cell?_setCell_other _ _ _ _ (ne _ (by decide))]; exact a3
  · rw [World.cell?_setCell_other _ _ _ _ (ne _ (by decide))]; exact a4
  · rw [World.cell?_setCell_other _ _ _ _ (ne _ (by decide))]; exact a5
  · rw [World.cell?_setCell_other _ _ _ _ (ne _ (by decide))]; exact a6
  · rw [World.cell?_setCell_other _ _ _ _ (ne2 _)]; exact b0
  · rw [World.cell?_setCell_other _ _ _ _ (ne2 _)]; exact b1
  · rw [World.cell?_setCell_other _ _ _ _ (ne2 _)]; exact b2
  · rw [World.cell?_setCell_other _ _ _ _ (ne2 _)]; exact b3
  · rw [World.cell?_setCell_other _ _ _ _ (ne2 _)]; exact b4
  · rw [World.cell?_setCell_other _ _ _ _ (ne2 _)]; exact b5
  · rw [World.cell?_setCell_other _ _ _ _ (ne2 _)]; exact b6
  · rw [World.cell?_setCell_other _ _ _ _ (ne2 _)]; exact b7
  · rw [World.cell?_setCell_other _ _ _ _ (ne2 _)]; exact b8
  · rw [World.cell?_setCell_other _ _ _ _ (ne2 _)]; exact b9
theorem bxr_start {w w1 : World} {x : GVal} {A : Option Addr} {len cap : Nat} {t t' : TypeId} (hb : Below ((w.alloc (.cells #[.int .i64 x.kind, .int .u64 x.n, .string x.s, .int .i64 x.t.sec, .int .i64 x.t.nsec, .int .i64 x.t.off, .slice A len cap] t)).alloc (.cells #[.int .i64 0, .int .u64 0, .string ByteArray.empty, .int .i64 0, .int .i64 0, .int .i64 0, .slice none 0 0, .int .i64 0, .bool false, .bool false] t')).heap.size ((w.alloc (.cells #[.int .i64 x.kind, .int .u64 x.n, .string x.s, .int .i64 x.t.sec, .int .i64 x.t.nsec, .int .i64 x.t.off, .slice A len cap] t)).alloc (.cells #[.int .i64 0, .int .u64 0, .string ByteArray.empty, .int .i64 0, .int .i64 0, .int .i64 0, .slice none 0 0, .int .i64 0, .bool false, .bool false] t')) w1) : BxR w x A len cap w1 := by
  have k1 := (keeps_alloc (w.alloc (.cells #[.int .i64 x.kind, .int .u64 x.n, .string x.s, .int .i64 x.t.sec, .int .i64 x.t.nsec, .int .i64 x.t.off, .slice A len cap] t)) (.cells #[.int .i64 0, .int .u64 0, .string ByteArray.empty, .int .i64 0, .int .i64 0, .int .i64 0, .slice none 0 0, .int .i64 0, .bool false, .bool false] t')).trans (keeps_of_below hb)
  have k := keeps_of_below hb
  have hs := hb.size
  simp at hs
  refine ⟨⟨k1.cell (cell_new _ _ _ _ 0 _ rfl rfl), k1.cell (cell_new _ _ _ _ 1 _ rfl rfl), k1.cell (cell_new _ _ _ _ 2 _ rfl rfl), k1.cell (cell_new _ _ _ _ 3 _ rfl rfl), k1.cell (cell_new _ _ _ _ 4 _ rfl rfl), k1.cell (cell_new _ _ _ _ 5 _ rfl rfl), k1.cell (cell_new _ _ _ _ 6 _ rfl rfl)⟩, fun o ho => (hb.frozen (p := ⟨w.heap.size, o, none⟩) (by show w.heap.size < _; simp; omega)).trans ?_, ⟨k.cell (cell_new _ _ _ _ 0 _ (by simp) rfl), k.cell (cell_new _ _ _ _ 1 _ (by simp) rfl), k.cell (cell_new _ _ _ _ 2 _ (by simp) rfl), k.cell (cell_new _ _ _ _ 3 _ (by simp) rfl), k.cell (cell_new _ _ _ _ 4 _ (by simp) rfl), k.cell (cell_new _ _ _ _ 5 _ (by simp) rfl), k.cell (cell_new _ _ _ _ 6 _ (by simp) rfl), k.cell (cell_new _ _ _ _ 7 _ (by simp) rfl), k.cell (cell_new _ _ _ _ 8 _ (by simp) rfl), k.cell (cell_new _ _ _ _ 9 _ (by simp) rfl)⟩, fun o ho => (hb.frozen (p := ⟨w.heap.size + 1, o, none⟩) (by show w.heap.size + 1 < _; simp)).trans ?_, by omega⟩
  · have : ((w.alloc (.cells #[.int .i64 x.kind, .int .u64 x.n, .string x.s, .int .i64 x.t.sec, .int .i64 x.t.nsec, .int .i64 x.t.off, .slice A len cap] t)).alloc (.cells #[.int .i64 0, .int .u64 0, .string ByteArray.empty, .int .i64 0, .int .i64 0, .int .i64 0, .slice none 0 0, .int .i64 0, .bool false, .bool false] t')).frozen? ⟨w.heap.size, o, none⟩ = false := by simp [go_sem]
    exact this
  · have : ((w.alloc (.cells #[.int .i64 x.kind, .int .u64 x.n, .string x.s, .int .i64 x.t.sec, .int .i64 x.t.nsec, .int .i64 x.t.off, .slice A len cap] t)).alloc (.cells #[.int .i64 0, .int .u64 0, .string ByteArray.empty, .int .i64 0, .int .i64 0, .int .i64 0, .slice none 0 0, .int .i64 0, .bool false, .bool false] t')).frozen? ⟨w.heap.size + 1, o, none⟩ = false := by simp [go_sem]
    exact this

theorem resolveD_val {d : GVal} {i : Nat} (h : i < 100) (hk : ¬ d.kind = 9) : resolveD (100 - i) d i = .val d i := by
  rw [show 100 - i = (100 - (i + 1)) + 1 by omega, resolveD, if_neg hk]
theorem resolveD_pan {d : GVal} {i : Nat} (h : i < 100) (hk : d.kind = 9) (hs : ¬ d.s.size = 0) : resolveD (100 - i) d i = .pan (i + 1) := by
  rw [show 100 - i = (100 - (i + 1)) + 1 by omega, resolveD, if_pos hk, if_neg hs]
theorem resolveD_step {d : GVal} {i : Nat} (h : i < 100) (hk : d.kind = 9) (hs : d.s.size = 0) : resolveD (100 - i) d i = resolveD (100 - (i + 1)) (nextD d) (i + 1) := by
  rw [show 100 - i = (100 - (i + 1)) + 1 by omega, resolveD, if_pos hk, if_pos hs]
theorem tidy_lv {n : Int} {s : ByteArray} {t : GTime} {l : GAttrs} (hs : s.size = 0) : vaTidy (.mk 9 n s t l) = .mk 9 n s .zero (.cons ByteArray.empty (vaEnd l) .nil) := by unfold vaTidy; simp [hs]
theorem tidy_th {n : Int} {s : ByteArray} {t : GTime} {l : GAttrs} (hs : ¬ s.size = 0) : vaTidy (.mk 9 n s t l) = .mk 9 n s .zero .nil := by unfold vaTidy; simp [hs]
theorem end_head : ∀ l : GAttrs, vaEnd l = vaTidy l.headVal
  | .nil => by simp only [vaEnd, GAttrs.headVal]; exact tidy_zero.symm
  | .cons k v r => by simp only [vaEnd, GAttrs.headVal]

set_option maxRecDepth 100000 in
set_option maxHeartbeats 1000000 in
/-- spec.VaResolve. -/
theorem specResolve_any (d : GVal) (w : World) (A : Option Addr) (len cap : Nat) (hg : GoodD d) (hl : RS w d.l A len) :
    Calls Tryz.prog 20 #[vVal d A len cap] w (SResPost (resolveD 100 d 0) w) := by
  obtain ⟨Q, hQ⟩ : ∃ Q, Q = SResPost (resolveD 100 d 0) w := ⟨_, rfl⟩
  rw [← hQ]
  have HQ := Lib.hid hQ
  have HT := Lib.hid (fun wx (hk : Keeps w wx) => tidy_any d wx A len cap (by have := hg.2.2; omega) (hl.keep hk))
  have HGd := Lib.hid hg
  clear hQ hg hl
  unfold vVal at HT ⊢
  go_enter Tryz.func20, Tryz.ntmps20
  go_wp2_with (first
    | (go_at_call 17; refine (HT.out _ (keeps_of_below (by repeat' (first | with_reducible assumption | with_reducible exact Below.refl _ _ | with_reducible refine Below.setCell ?_ ?_ _ | with_reducible refine Below.alloc ?_ ?_ _ | with_reducible refine Below.drew ?_ | with_reducible refine below_drewN ?_ _ | omega | (simp; done) | (simp; omega))))).mono ?_; rintro e w1 ⟨A1, len1, cap1, rfl, hr1, hb1⟩; have hB1 := keeps_below (show Below w.heap.size w _ from (by repeat' (first | with_reducible assumption | with_reducible exact Below.refl _ _ | with_reducible refine Below.setCell ?_ ?_ _ | with_reducible refine Below.alloc ?_ ?_ _ | with_reducible refine Below.drew ?_ | with_reducible refine below_drewN ?_ _ | omega | (simp; done) | (simp; omega)))) hb1; obtain ⟨hc1, hf1⟩ := bcell hb1; have hz1 := hb1.size; (try simp at hz1); have e10 : w.heap.size < w1.heap.size := (by omega); have e11 : w.heap.size + 1 < w1.heap.size := (by omega); have HR1 := Lib.hid hr1; have HW1 := Lib.hid hb1; clear hr1))
  clear hc1 hf1
  go_loopw [3, 6] (fun _ a wr => SResRnd d w a wr) (fun _ a _ => 100 - (intOf a).toNat)
  case atStart => exact ⟨0, d, A1, len1, cap1, Nat.zero_le _, rfl, rfl, HGd.out, (bxr_start (x := d) (A := A) (len := len) (cap := cap) HW1.out).set7 (vaTidy d) A1 len1 cap1, HR1.out.turn (keepsOn_set7 (fun b hb => by simp at hb; omega) _ _ _ _ _ _ _) (fun b hb _ => by simp at hb ⊢; omega), below_set7 hB1 (Nat.le_refl _) _ _ _ _ _ _ _⟩
  case round =>
    obtain ⟨i, di, A, len, cap, hi, rfl, hout, hgd, hbx, hrs, hB⟩ := hrel
    have HO := Lib.hid hout
    have HBx := Lib.hid hbx
    have HRS := Lib.hid hrs
    obtain ⟨⟨a0, a1, a2, a3, a4, a5, a6⟩, fa, ⟨b0, b1, b2, b3, b4, b5, b6, b7, b8, b9⟩, fb, hz⟩ := hbx
    have f0 := fa 0 (by omega)
    have f1 := fa 1 (by omega)
    have f2 := fa 2 (by omega)
    have f3 := fa 3 (by omega)
    have f4 := fa 4 (by omega)
    have f5 := fa 5 (by omega)
    have f6 := fa 6 (by omega)
    have h0 := fb 0 (by omega)
    have h1 := fb 1 (by omega)
    have h2 := fb 2 (by omega)
    have h3 := fb 3 (by omega)
    have h4 := fb 4 (by omega)
    have h5 := fb 5 (by omega)
    have h6 := fb 6 (by omega)
    have h7 := fb 7 (by omega)
    have h8 := fb 8 (by omega)
    have h9 := fb 9 (by omega)
    clear hout hrs fa fb HT HR1
    by_cases hlt : i < 100
    · by_cases hk : di.kind = 9
      · obtain ⟨kk, n, s, t, l⟩ := di
        simp only [kind_mk] at hk
        subst hk
        by_cases hs : s.size = 0
        · have hso := resolveD_step (d := .mk 9 n s t l) hlt rfl hs
          have HSo := Lib.hid (HO.out.trans hso)
          have hnw := hgd.2.1
          unfold GVal.wf at hnw
          have hn0 := hnw.2.1.1
          have hn1 := hnw.2.1.2
          have HN := Lib.hid (next_good hgd rfl)
          have HGi := Lib.hid hgd
          rw [tidy_lv hs] at HBx HRS a0 a1 a2 a3 a4 a5
          simp only [kind_mk, n_mk, s_mk, t_mk, l_mk, GTime.zero] at HRS a0 a1 a2 a3 a4 a5
          have hse := empty_of_size hs
          subst hse
          clear hso hnw HO hgd
          by_cases hn : 1 < n
          · go_wp2
            refine ⟨⟨i + 1, .mk 9 (n - 1) ByteArray.empty t l, A, len, cap, by omega, by push_cast; rfl, ?_, ?_, ?_, ?_, hB.setCell (Nat.le_refl _) _⟩, ?_⟩
            · rw [HSo.out, nextD_mk, if_neg (by omega)]
            · have h := HN.out; rw [nextD_mk, if_neg (by omega)] at h; exact h
            · rw [tidy_lv rfl]; exact HBx.out.setN
            · rw [tidy_lv rfl]; exact HRS.out.turn ((KeepsOn.refl _ _).setCell (fun b hb => by simp; omega) _) (fun b hb _ => hb)
            · simp only [intOf]; omega
          · go_wp2_with (first
              | (go_at_call 42; refine (end_any (.mk 9 n ByteArray.empty .zero (.cons ByteArray.empty (vaEnd l) .nil)) _ _ _ _ (by have h1 := HGi.out.2.2; have h2 := tsizeEnd l; simp only [GVal.size, GAttrs.size] at h1 ⊢; omega) HRS.out.rs).mono ?_; rintro e w2 ⟨A2, len2, cap2, rfl, hr2, hb2⟩; have HB2 := Lib.hid (HBx.out.below hb2); have HR2 := Lib.hid hr2; have hB2 := keeps_below hB hb2; have hs2 := hb2.size; obtain ⟨⟨c0, c1, c2, c3, c4, c5, c6⟩, fc, ⟨b0, b1, b2, b3, b4, b5, b6, b7, b8, b9⟩, fb, hz2⟩ := HB2.out; have g0 := fc 0 (by omega); have g1 := fc 1 (by omega); have g2 := fc 2 (by omega); have g3 := fc 3 (by omega); have g4 := fc 4 (by omega); have g5 := fc 5 (by omega); have g6 := fc 6 (by omega); clear hr2 hb2 fc fb a0 a1 a2 a3 a4 a5 a6 f0 f1 f2 f3 f4 f5 f6 h0 h1 h2 h3 h4 h5 h6 h7 h8 h9; unfold vVal))
            have he : vaEnd (.cons ByteArray.empty (vaEnd l) .nil) = vaTidy l.headVal := by
              have h1 := tidyEnd_tidy l
              simp only [vaEnd]
              rw [h1, end_head]
            refine ⟨⟨i + 1, l.headVal, A2, len2, cap2, by omega, by push_cast; rfl, ?_, ?_, ?_, ?_, below_set7 hB2 (Nat.le_refl _) _ _ _ _ _ _ _⟩, ?_⟩
            · rw [HSo.out, nextD_mk, if_pos (by omega)]
            · have h := HN.out; rw [nextD_mk, if_pos (by omega)] at h; exact h
            · rw [← he]; exact HB2.out.set7 _ _ _ _
            · rw [← he]; exact HR2.out.turn (keepsOn_set7 (fun b hb => by simp at hb; omega) _ _ _ _ _ _ _) (fun b hb _ => by simp at hb ⊢; omega)
            · simp only [intOf]; omega
        · have hb' := toList_ne (s := s) (fun h => hs (by rw [h]; rfl))
          rw [tidy_th hs] at HBx HRS a0 a1 a2 a3 a4 a5
          simp only [kind_mk, n_mk, s_mk, t_mk, l_mk, GTime.zero] at HRS a0 a1 a2 a3 a4 a5
          have HP := Lib.hid (HO.out.trans (resolveD_pan (d := .mk 9 n s t l) hlt rfl hs))
          clear HO hgd
          go_wp2
          refine bodyPost_ret (v := vRes GVal.zero none 0 0 ((i + 1 : Nat)) true false) ?_ rfl ?_
          · simp [results, Tryz.results20, go_sem, vRes, GVal.zero, GTime.zero, b0, b1, b2, b3, b4, b5, b6, b7, b8, b9, h0, h1, h2, h3, h4, h5, h6, h7, h8, h9]; (try rfl)
          · have hq := HQ.out
            subst hq
            rw [HP.out]
            exact ⟨none, 0, 0, rfl, RSP.nil_ _ _ _, below_set10 hB (by omega) _ _ _ _ _ _ _ _ _ _⟩
      · have hkb : ((vaTidy di).kind != 9) = true := by rw [tidy_kind]; simp [hk]
        have HP := Lib.hid (HO.out.trans (resolveD_val hlt hk))
        clear HO hgd hk
        go_wp2
        refine bodyPost_ret (v := vRes (vaTidy di) A len cap i false false) ?_ rfl ?_
        · simp [results, Tryz.results20, go_sem, vRes, b0, b1, b2, b3, b4, b5, b6, b7, b8, b9, h0, h1, h2, h3, h4, h5, h6, h7, h8, h9]; (try rfl)
        · have hq := HQ.out
          subst hq
          rw [HP.out]
          exact ⟨A, len, cap, rfl, HRS.out.turn (keepsOn_set10 (fun b hb => by have hb : w.heap.size + 1 + 1 ≤ b := hb; omega) _ _ _ _ _ _ _ _ _ _) (fun b hb _ => by have hb : w.heap.size + 1 + 1 ≤ b := hb; show w.heap.size ≤ b; omega), below_set10 hB (by omega) _ _ _ _ _ _ _ _ _ _⟩
    · have hge : ¬ ((i : Int) < 100) := by omega
      go_wp2
      refine bodyPost_ret (v := vRes GVal.zero none 0 0 100 false true) ?_ rfl ?_
      · simp [results, Tryz.results20, go_sem, vRes, GVal.zero, GTime.zero, b0, b1, b2, b3, b4, b5, b6, b7, b8, b9, h0, h1, h2, h3, h4, h5, h6, h7, h8, h9]; (try rfl)
      · have hq := HQ.out
        subst hq
        obtain rfl : i = 100 := by omega
        have hm : resolveD (100 - 100) di 100 = .much := rfl
        rw [HO.out, hm]
        exact ⟨none, 0, 0, rfl, RSP.nil_ _ _ _, below_set10 hB (by omega) _ _ _ _ _ _ _ _ _ _⟩

end Go.Proofs.YtdeomgfapffidaaGreatDoor.Va

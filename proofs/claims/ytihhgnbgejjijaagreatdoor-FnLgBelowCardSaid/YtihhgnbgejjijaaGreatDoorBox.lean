/- Values in boxes of their own. -/
import Derived.Test.YtihhgnbgejjijaaGreatDoorBut
namespace Go.Proofs.YtihhgnbgejjijaaGreatDoor.Va
set_option linter.unusedVariables false
set_option linter.unusedSimpArgs false
open Go Go.RowKit

/-- A Val lies in a box of its own. -/
def Box (w : World) (b : Nat) (d : GVal) (A : Option Addr) (len cap : Nat) : Prop :=
  w.cell? ⟨b, 0, none⟩ = some (.int .i64 d.kind) ∧ w.cell? ⟨b, 1, none⟩ = some (.int .u64 d.n) ∧ w.cell? ⟨b, 2, none⟩ = some (.string d.s) ∧ w.cell? ⟨b, 3, none⟩ = some (.int .i64 d.t.sec) ∧ w.cell? ⟨b, 4, none⟩ = some (.int .i64 d.t.nsec) ∧ w.cell? ⟨b, 5, none⟩ = some (.int .i64 d.t.off) ∧ w.cell? ⟨b, 6, none⟩ = some (.slice A len cap)
theorem Box.keep {w w' : World} {b : Nat} {d : GVal} {A : Option Addr} {len cap : Nat} (h : Box w b d A len cap) (hk : Keeps w w') : Box w' b d A len cap :=
  ⟨hk.cell h.1, hk.cell h.2.1, hk.cell h.2.2.1, hk.cell h.2.2.2.1, hk.cell h.2.2.2.2.1, hk.cell h.2.2.2.2.2.1, hk.cell h.2.2.2.2.2.2⟩

theorem keeps_drew (w : World) : Keeps w w.drew := fun _ _ => rfl
theorem keeps_alloc (w : World) (o : Obj) : Keeps w (w.alloc o) := keeps_of_below ((Below.refl _ _).alloc (Nat.le_refl _) _)
theorem box_new (w : World) (t : TypeId) (d : GVal) (A : Option Addr) (len cap n : Nat) (hn : n = w.heap.size) : Box (w.alloc (.cells #[.int .i64 d.kind, .int .u64 d.n, .string d.s, .int .i64 d.t.sec, .int .i64 d.t.nsec, .int .i64 d.t.off, .slice A len cap] t)) n d A len cap :=
  ⟨cell_new _ _ _ _ _ _ hn rfl, cell_new _ _ _ _ _ _ hn rfl, cell_new _ _ _ _ _ _ hn rfl, cell_new _ _ _ _ _ _ hn rfl, cell_new _ _ _ _ _ _ hn rfl, cell_new _ _ _ _ _ _ hn rfl, cell_new _ _ _ _ _ _ hn rfl⟩

end Go.Proofs.YtihhgnbgejjijaaGreatDoor.Va

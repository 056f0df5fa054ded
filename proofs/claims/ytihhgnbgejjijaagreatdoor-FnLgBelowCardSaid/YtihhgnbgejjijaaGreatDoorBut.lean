/- What a call leaves as it was but for one block. -/
import Derived.Test.YtihhgnbgejjijaaGreatDoorMem
import Derived.Defers
import Derived.Recover
import Derived.Laws.Pointers
namespace Go.Proofs.YtihhgnbgejjijaaGreatDoor.Va
set_option linter.unusedVariables false
set_option linter.unusedSimpArgs false
open Go Go.RowKit

/-- But for block g all that was there is as it was in W. -/
abbrev But (g : Nat) (W w : World) : Prop := W.grownBy w (some g)
theorem But.refl (g : Nat) (W : World) : But g W W := ⟨rfl, rfl, rfl, Nat.le_refl _, fun _ _ _ => rfl⟩
theorem But.trans {g : Nat} {a b c : World} (h : But g a b) (k : But g b c) : But g a c :=
  ⟨k.os.trans h.os, k.tape.trans h.tape, k.output.trans h.output, Nat.le_trans h.size k.size, fun i hi hn => (k.block i (by have := h.size; omega) hn).trans (h.block i hi hn)⟩
theorem But.of_below {g : Nat} {W w : World} (h : Below W.heap.size W w) : But g W w := ⟨h.os, h.tape, h.output, h.size, fun i hi _ => h.block i hi⟩
theorem But.set {g : Nat} {W w : World} (h : But g W w) (o : Nat) (v : Value) : But g W (w.setCell ⟨g, o, none⟩ v) :=
  h.trans ⟨rfl, rfl, rfl, by simp, fun i hi hn => Below.heap_setCell _ _ _ _ (fun e => hn (by rw [e]))⟩
theorem But.setOwn {g : Nat} {W w : World} (h : But g W w) (p : Addr) (hp : W.heap.size ≤ p.block) (v : Value) : But g W (w.setCell p v) :=
  ⟨h.os, h.tape, h.output, by have := h.size; simpa using this, fun i hi hn => (Below.heap_setCell _ _ _ _ (by omega)).trans (h.block i hi hn)⟩
theorem But.drewN {g : Nat} {W w : World} (h : But g W w) (n : Nat) : But g W (w.drewN n) := ⟨h.os, h.tape, h.output, h.size, h.block⟩
theorem But.drew {g : Nat} {W w : World} (h : But g W w) : But g W w.drew := ⟨h.os, h.tape, h.output, h.size, h.block⟩
theorem But.alloc {g : Nat} {W w : World} (h : But g W w) (o : Obj) : But g W (w.alloc o) := h.trans (World.grownBy_alloc _ o (some g))
theorem But.below {g : Nat} {W w w' : World} (h : But g W w) (hb : Below w.heap.size w w') : But g W w' := h.trans (.of_below hb)
theorem But.cell {g : Nat} {W w : World} (h : But g W w) {b o : Nat} (hb : b < W.heap.size) (hn : b ≠ g) : w.cell? ⟨b, o, none⟩ = W.cell? ⟨b, o, none⟩ :=
  World.cell?_of_block (a := ⟨b, o, none⟩) (h.block b hb (fun e => hn (Option.some.inj e)))
theorem But.frozen {g : Nat} {W w : World} (h : But g W w) {b o : Nat} (hb : b < W.heap.size) (hn : b ≠ g) : w.frozen? ⟨b, o, none⟩ = W.frozen? ⟨b, o, none⟩ :=
  World.frozen?_of_block (a := ⟨b, o, none⟩) (h.block b hb (fun e => hn (Option.some.inj e)))
/-- The block is the call's own. -/
theorem But.own {g : Nat} {W w w' : World} (hb : Below W.heap.size W w) (hg : W.heap.size ≤ g) (h : But g w w') : Below W.heap.size W w' :=
  ⟨h.os.trans hb.os, h.tape.trans hb.tape, h.output.trans hb.output, Nat.le_trans hb.size h.size, fun i hi => (h.block i (by have := hb.size; omega) (fun e => by have := Option.some.inj e; omega)).trans (hb.block i hi)⟩
/-- The block and the world's new ones. -/
theorem But.under {g : Nat} {W w w' : World} (hb : But g W w) (h : But g w w') : But g W w' := hb.trans h

end Go.Proofs.YtihhgnbgejjijaaGreatDoor.Va

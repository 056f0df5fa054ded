/- What a call leaves as it was but for one block and one row. -/
import Derived.Test.YtihhgnbgejjijaaGreatDoorBut
import Derived.Test.YtihhgnbgejjijaaGreatDoorArgSl
import Derived.Deep.AppendLies
namespace Go.Proofs.YtihhgnbgejjijaaGreatDoor.Va
set_option linter.unusedVariables false
set_option linter.unusedSimpArgs false
open Go Go.RowKit

/-- But for block c and the row in block u all that was there is as it was in W. -/
structure Two (c : Nat) (u : Option Nat) (W w : World) : Prop where
  os : w.os = W.os
  tape : w.tape = W.tape
  output : w.output = W.output
  size : W.heap.size ≤ w.heap.size
  block : ∀ i, i < W.heap.size → i ≠ c → some i ≠ u → w.heap[i]? = W.heap[i]?
theorem Two.refl (c : Nat) (u : Option Nat) (W : World) : Two c u W W := ⟨rfl, rfl, rfl, Nat.le_refl _, fun _ _ _ _ => rfl⟩
theorem Two.trans {c : Nat} {u v : Option Nat} {a b d : World} (h : Two c u a b) (k : Two c v b d) (hv : v = u ∨ ∃ g, v = some g ∧ a.heap.size ≤ g) : Two c u a d :=
  ⟨k.os.trans h.os, k.tape.trans h.tape, k.output.trans h.output, Nat.le_trans h.size k.size, fun i hi hc hu => (k.block i (by have := h.size; omega) hc (by
    rcases hv with rfl | ⟨g, rfl, hg⟩
    · exact hu
    · intro e; injection e with e; omega)).trans (h.block i hi hc hu)⟩
theorem Two.of_below {c : Nat} {u : Option Nat} {W w : World} (h : Below W.heap.size W w) : Two c u W w := ⟨h.os, h.tape, h.output, h.size, fun i hi _ _ => h.block i hi⟩
theorem Two.of_grown {c : Nat} {u : Option Nat} {W w : World} (h : W.grownBy w u) : Two c u W w := ⟨h.os, h.tape, h.output, h.size, fun i hi _ hu => h.block i hi hu⟩
theorem Two.of_but {c : Nat} {u : Option Nat} {W w : World} (h : But c W w) : Two c u W w := ⟨h.os, h.tape, h.output, h.size, fun i hi hc _ => h.block i hi (fun e => hc (Option.some.inj e))⟩
theorem Two.then {c : Nat} {u : Option Nat} {a b d : World} (h : Two c u a b) (k : Two c u b d) : Two c u a d := h.trans k (.inl rfl)
theorem Two.below {c : Nat} {u : Option Nat} {W w w' : World} (h : Two c u W w) (hb : Below w.heap.size w w') : Two c u W w' := h.then (.of_below hb)
theorem Two.alloc {c : Nat} {u : Option Nat} {W w : World} (h : Two c u W w) (o : Obj) : Two c u W (w.alloc o) := h.then (.of_grown (World.grownBy_alloc _ o u))
theorem Two.drew {c : Nat} {u : Option Nat} {W w : World} (h : Two c u W w) : Two c u W w.drew := ⟨h.os, h.tape, h.output, h.size, h.block⟩
theorem Two.drewN {c : Nat} {u : Option Nat} {W w : World} (h : Two c u W w) (n : Nat) : Two c u W (w.drewN n) := ⟨h.os, h.tape, h.output, h.size, h.block⟩
theorem Two.set {c : Nat} {u : Option Nat} {W w : World} (h : Two c u W w) (o : Nat) (v : Value) : Two c u W (w.setCell ⟨c, o, none⟩ v) := h.then (.of_but ((But.refl c w).set o v))
theorem Two.setOwn {c : Nat} {u : Option Nat} {W w : World} (h : Two c u W w) (p : Addr) (hp : W.heap.size ≤ p.block) (v : Value) : Two c u W (w.setCell p v) :=
  ⟨h.os, h.tape, h.output, by have := h.size; simpa using this, fun i hi hc hu => (Below.heap_setCell _ _ _ _ (by omega)).trans (h.block i hi hc hu)⟩
theorem Two.cell {c : Nat} {u : Option Nat} {W w : World} (h : Two c u W w) {b o : Nat} (hb : b < W.heap.size) (hc : b ≠ c) (hu : some b ≠ u) : w.cell? ⟨b, o, none⟩ = W.cell? ⟨b, o, none⟩ :=
  World.cell?_of_block (a := ⟨b, o, none⟩) (h.block b hb hc hu)
theorem Two.frozen {c : Nat} {u : Option Nat} {W w : World} (h : Two c u W w) {b o : Nat} (hb : b < W.heap.size) (hc : b ≠ c) (hu : some b ≠ u) : w.frozen? ⟨b, o, none⟩ = W.frozen? ⟨b, o, none⟩ :=
  World.frozen?_of_block (a := ⟨b, o, none⟩) (h.block b hb hc hu)
/-- All that it writes lies above a bound. -/
theorem Two.under {c B : Nat} {u : Option Nat} {a W w : World} (hb : Below B a W) (hB : B ≤ a.heap.size) (h : Two c u W w) (hc : B ≤ c) (hu : ∀ g, u = some g → B ≤ g) : Below B a w :=
  ⟨h.os.trans hb.os, h.tape.trans hb.tape, h.output.trans hb.output, Nat.le_trans hb.size h.size, fun i hi => (h.block i (by have := hb.size; omega) (by omega) (fun e => by have := hu i e.symm; omega)).trans (hb.block i hi)⟩
theorem Two.keepsOn {c : Nat} {u : Option Nat} {W w : World} {P : Nat → Prop} (h : Two c u W w) (hc : ∀ b, P b → b ≠ c) (hu : ∀ b, P b → some b ≠ u) : KeepsOn P W w := fun b hp hlt => h.block b hlt (hc b hp) (hu b hp)

/-- A variable that holds a row of attributes of its own. -/
def AccU (c : Nat) (u : Value) (n : Nat) (xs : List Value) (w : World) : Prop := w.cell? ⟨c, 0, none⟩ = some u ∧ w.frozen? ⟨c, 0, none⟩ = false ∧ w.ownsRow (c + 1) 111 3 u n xs
/-- The row is the old one or a new one. -/
def NewRow (u v : Value) (w : World) : Prop := v.ownBlock = u.ownBlock ∨ ∃ g, v.ownBlock = some g ∧ w.heap.size ≤ g

end Go.Proofs.YtihhgnbgejjijaaGreatDoor.Va

/- The function that takes a record's attributes one by one (impl.attrsIn's): the walk. -/
namespace Go.Proofs.YtihhgnbgejjijaaGreatDoor.Va
set_option linter.unusedVariables false
set_option linter.unusedSimpArgs false
open Go Go.RowKit

set_option maxRecDepth 100000 in
set_option maxHeartbeats 1000000 in
/-- impl.attrsIn$1. -/
theorem closA_any (key : ByteArray) (i : Int) (y : Value) (hy : y = .nilIface ∨ ∃ t u, y = .iface t u) (c : Nat) (u : Value) (n : Nat) (xs : List Value) (w : World) (h : AccU c u n xs w) (hn : n < 300000) :
    Calls Tryz.prog 117 #[.agg #[.string key, .int .u64 i, y], .pointer (some ⟨c, 0, none⟩)] w fun e w' => e = .returned (.bool true) ∧ ∃ v, AccU c v (n + 1) (xs ++ [.string key, .int .u64 i, y]) w' ∧ Two c u.ownBlock w w' ∧ NewRow u v w := by
  obtain ⟨i0, hi, hz0, hz1, hz2⟩ := info_parts infoSAttr
  obtain ⟨hc, hf, hown⟩ := h
  have hcl : c < w.heap.size := World.block_lt_of_cell? w _ hc
  have hcl1 : c < w.heap.size + 1 := by omega
  have hcn : c ≠ w.heap.size := by omega
  have HO := Lib.hid hown
  have HC := Lib.hid (And.intro hc hf)
  have HLT := Lib.hid (fun g hg => (hown.lt g hg).2)
  have HLO := Lib.hid (fun g hg => (hown.lt g hg).1)
  clear hown
  obtain ⟨Q, hQ⟩ : ∃ Q : Ending → World → Prop, Q = fun e w' => e = .returned (.bool true) ∧ ∃ v, AccU c v (n + 1) (xs ++ [.string key, .int .u64 i, y]) w' ∧ Two c u.ownBlock w w' ∧ NewRow u v w := ⟨_, rfl⟩
  rw [← hQ]
  have HQ := Lib.hid hQ
  clear hQ
  rcases hy with rfl | ⟨ty, u2, rfl⟩
  · go_enter Tryz.func117, Tryz.ntmps117
    go_wp2_with (at_builtin; refine wpList_append_lies _ rfl (.tmp 4) (.tmp 6) 113 rfl (c + 1) 111 i0 _ 3 40 Tryz.underlying113 hi hz0 hz1 hz2 rfl (by decide) _ n xs rfl ((HO.out.alloc _).alloc _) ⟨_, 0, none⟩ 1 1 [.string key, .int .u64 i, .nilIface] rfl rfl (by intro j u hj; exact cells_new _ _ _ _ (by simp) j u hj) (by intro u hu; simp at hu; rcases hu with rfl | rfl | rfl; all_goals rfl) (by decide) (by unfold maxLen; omega) (by omega) (by simp; omega) _ rfl ?_; intro g cap3 w3 hown3 hgrow3 hat3 hlt3; have hb3 := hgrow3.block c (by simp; omega) (fun e => by have := HLO.out _ e.symm; omega); have hc3 : w3.cell? ⟨c, 0, none⟩ = some u := ((World.cell?_of_block (a := ⟨c, 0, none⟩) hb3).trans (by simp [go_sem, hcl, hcl1, HC.out.1])); have hf3 : w3.frozen? ⟨c, 0, none⟩ = false := ((World.frozen?_of_block (a := ⟨c, 0, none⟩) hb3).trans (by simp [go_sem, hcl, hcl1, HC.out.2])); have HO3 := Lib.hid hown3; have HG3 := Lib.hid hgrow3; have HA3 := Lib.hid hat3; have HT3 := Lib.hid hlt3; clear hown3 hgrow3 hat3 hlt3)
    rw [HQ.out]
    have HG : World.grownBy _ w3 u.ownBlock := HG3.out
    have HA : u.ownBlock = some g ∨ _ := HA3.out
    refine ⟨rfl, .slice (some ⟨g, 0, none⟩) (n + 1) cap3, ⟨World.cell?_setCell_same _ _ _ hc3, by rw [World.frozen?_setCell]; exact hf3, ownsRow_setCell_below HO3.out (Nat.lt_succ_self _) _⟩, ((((Two.refl c _ w).alloc _).alloc _).then (Two.of_grown HG)).set 0 _, ?_⟩
    rcases HA with h | h
    · exact .inl h.symm
    · exact .inr ⟨g, rfl, by simp at h; omega⟩
  · go_enter Tryz.func117, Tryz.ntmps117
    go_wp2_with (at_builtin; refine wpList_append_lies _ rfl (.tmp 4) (.tmp 6) 113 rfl (c + 1) 111 i0 _ 3 40 Tryz.underlying113 hi hz0 hz1 hz2 rfl (by decide) _ n xs rfl ((HO.out.alloc _).alloc _) ⟨_, 0, none⟩ 1 1 [.string key, .int .u64 i, .iface ty u2] rfl rfl (by intro j u hj; exact cells_new _ _ _ _ (by simp) j u hj) (by intro u hu; simp at hu; rcases hu with rfl | rfl | rfl; all_goals rfl) (by decide) (by unfold maxLen; omega) (by omega) (by simp; omega) _ rfl ?_; intro g cap3 w3 hown3 hgrow3 hat3 hlt3; have hb3 := hgrow3.block c (by simp; omega) (fun e => by have := HLO.out _ e.symm; omega); have hc3 : w3.cell? ⟨c, 0, none⟩ = some u := ((World.cell?_of_block (a := ⟨c, 0, none⟩) hb3).trans (by simp [go_sem, hcl, hcl1, HC.out.1])); have hf3 : w3.frozen? ⟨c, 0, none⟩ = false := ((World.frozen?_of_block (a := ⟨c, 0, none⟩) hb3).trans (by simp [go_sem, hcl, hcl1, HC.out.2])); have HO3 := Lib.hid hown3; have HG3 := Lib.hid hgrow3; have HA3 := Lib.hid hat3; have HT3 := Lib.hid hlt3; clear hown3 hgrow3 hat3 hlt3)
    rw [HQ.out]
    have HG : World.grownBy _ w3 u.ownBlock := HG3.out
    have HA : u.ownBlock = some g ∨ _ := HA3.out
    refine ⟨rfl, .slice (some ⟨g, 0, none⟩) (n + 1) cap3, ⟨World.cell?_setCell_same _ _ _ hc3, by rw [World.frozen?_setCell]; exact hf3, ownsRow_setCell_below HO3.out (Nat.lt_succ_self _) _⟩, ((((Two.refl c _ w).alloc _).alloc _).then (Two.of_grown HG)).set 0 _, ?_⟩
    rcases HA with h | h
    · exact .inl h.symm
    · exact .inr ⟨g, rfl, by simp at h; omega⟩

end Go.Proofs.YtihhgnbgejjijaaGreatDoor.Va

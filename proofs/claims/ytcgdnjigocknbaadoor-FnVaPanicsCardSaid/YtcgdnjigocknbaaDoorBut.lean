/- What a call leaves as it was but for one block; and impl.caught's deferred closure. -/
import Derived.Test.YtcgdnjigocknbaaDoorMem
import Derived.Defers
import Derived.Recover
import Derived.Laws.Pointers
namespace Go.Proofs.YtcgdnjigocknbaaDoor.Va
set_option linter.unusedVariables false
set_option linter.unusedSimpArgs false
open Go Go.RowKit

/-- But for block g all that was there is as it was in W. -/
abbrev But (g : Nat) (W w : World) : Prop := W.grownBy w (some g)
theorem But.refl (g : Nat) (W : World) : But g W W := ⟨rfl, rfl, rfl, Nat.le_refl _, fun _ _ _ => rfl⟩
theorem But.trans {g : Nat} {a b c : World} (h : But g a b) (k : But g b c) : But g a c :=
  ⟨k.os.trans h.os, k.tape.trans h.tape, k.output.trans h.output, Nat.le_trans h.size k.size, fun i hi hn => (k.block i (by have := h.size; omega) hn).trans (h.block i hi hn)⟩
theorem But.of_below {g : Nat} {W w : World} (h : Below W.heap.size W w) : But g W w := ⟨h.os, h.tape, h.output, h.size, fun i hi _ => h.block i hi⟩
theorem But.set {g : Nat} {W w : World} (h : But g W w) (o : Nat) (v : Value) : But g W (w.setCell ⟨g, o, none⟩ v) :=
  h.trans ⟨rfl, rfl, rfl, by simp, fun i hi hn => Below.heap_setCell _ _ _ _ (fun e => hn (by rw [e]))⟩
theorem But.setOwn {g : Nat} {W w : World} (h : But g W w) (p : Addr) (hp : W.heap.size ≤ p.block) (v : Value) : But g W (w.setCell p v) :=
  ⟨h.os, h.tape, h.output, by have := h.size; simpa using this, fun i hi hn => (Below.heap_setCell _ _ _ _ (by omega)).trans (h.block i hi hn)⟩
theorem But.drewN {g : Nat} {W w : World} (h : But g W w) (n : Nat) : But g W (w.drewN n) := ⟨h.os, h.tape, h.output, h.size, h.block⟩
theorem But.drew {g : Nat} {W w : World} (h : But g W w) : But g W w.drew := ⟨h.os, h.tape, h.output, h.size, h.block⟩
theorem But.alloc {g : Nat} {W w : World} (h : But g W w) (o : Obj) : But g W (w.alloc o) := h.trans (World.grownBy_alloc _ o (some g))
theorem But.below {g : Nat} {W w w' : World} (h : But g W w) (hb : Below w.heap.size w w') : But g W w' := h.trans (.of_below hb)
theorem But.cell {g : Nat} {W w : World} (h : But g W w) {b o : Nat} (hb : b < W.heap.size) (hn : b ≠ g) : w.cell? ⟨b, o, none⟩ = W.cell? ⟨b, o, none⟩ :=
  World.cell?_of_block (a := ⟨b, o, none⟩) (h.block b hb (fun e => hn (Option.some.inj e)))
theorem But.frozen {g : Nat} {W w : World} (h : But g W w) {b o : Nat} (hb : b < W.heap.size) (hn : b ≠ g) : w.frozen? ⟨b, o, none⟩ = W.frozen? ⟨b, o, none⟩ :=
  World.frozen?_of_block (a := ⟨b, o, none⟩) (h.block b hb (fun e => hn (Option.some.inj e)))
/-- The block is the call's own. -/
theorem But.own {g : Nat} {W w w' : World} (hb : Below W.heap.size W w) (hg : W.heap.size ≤ g) (h : But g w w') : Below W.heap.size W w' :=
  ⟨h.os.trans hb.os, h.tape.trans hb.tape, h.output.trans hb.output, Nat.le_trans hb.size h.size, fun i hi => (h.block i (by have := hb.size; omega) (fun e => by have := Option.some.inj e; omega)).trans (hb.block i hi)⟩
/-- The block and the world's new ones. -/
theorem But.under {g : Nat} {W w w' : World} (hb : But g W w) (h : But g w w') : But g W w' := hb.trans h

set_option maxHeartbeats 400000 in
theorem caughtD_panicking (p : Addr) (u : TypeId) (pv : Value) (older : List PanicEntry) (w : World) (hc : w.cell? p = some (.bool false)) (hz : w.frozen? p = false) :
    CallsD Tryd.prog 40 #[.pointer (some p)] (.panicking ({ v := .iface u pv, recovered := false } :: older)) w fun e u' w' =>
      e = .returned (.tuple #[]) ∧ u' = .panicking ({ v := .iface u pv, recovered := true } :: older) ∧ w' = w.setCell p (.bool true) := by
  refine callsD_of_wpS Tryd.func40 rfl fun c₀ cs hu => ?_
  apply wpS_region
  simp [wpOpsS, go_sem, recoverD, hu, Tryd.ntmps40, Exit.thenS, hc, hz, bodyPostS, results, Tryd.results40]

theorem caughtD_idle (p : Addr) (w : World) (hc : w.cell? p = some (.bool false)) (hz : w.frozen? p = false) :
    CallsD Tryd.prog 40 #[.pointer (some p)] .returning w fun e u' w' => e = .returned (.tuple #[]) ∧ u' = .returning ∧ w' = w.setCell p (.bool false) := by
  refine callsD_of_wpS Tryd.func40 rfl fun c₀ cs hu => ?_
  apply wpS_region
  simp [wpOpsS, go_sem, recoverD, hu, Tryd.ntmps40, Exit.thenS, hc, hz, bodyPostS, results, Tryd.results40]
  cases c₀
  simp_all [bodyPostS, results, Tryd.results40]

set_option maxHeartbeats 400000 in
/-- impl.caught of a closure that returns. -/
theorem caught_ok_eq (caps : Array Value) (w : World) (T : World → World → Prop)
    (cF : ∀ wx, wx = w.alloc (.cells #[.bool false] 4) → Calls Tryd.prog 24 caps wx fun e w' => e = .returned (.tuple #[]) ∧ T wx w' ∧ w'.cell? ⟨w.heap.size, 0, none⟩ = some (.bool false) ∧ w'.frozen? ⟨w.heap.size, 0, none⟩ = false) :
    Calls Tryd.prog 23 #[.func (.func 24) #[] caps] w fun e w' => e = .returned (.bool false) ∧ ∃ wm, T (w.alloc (.cells #[.bool false] 4)) wm ∧ w' = (wm.setCell ⟨w.heap.size, 0, none⟩ (.bool false)).setCell ⟨w.heap.size, 0, none⟩ (.bool false) := by
  have hmf : ∀ (fn : Fn) (first cap : Array Value) (w : World), (Instr.makeFunc fn first cap).run Tryd.prog w = .ok (.func fn first cap) w := fun _ _ _ _ => rfl
  have CF := Lib.hid cF
  clear cF
  go_enter_defers Tryd.func23, Tryd.ntmps23
  go_wp2_with (go_at_call 24; refine (CF.out _ rfl).mono ?_; rintro e w1 ⟨rfl, hT, c1, f1⟩; have HT := Lib.hid hT; clear hT)
  refine leaves_cons (f := 40) (args := #[.pointer (some ⟨w.heap.size, 0, none⟩)]) (by simp) (by simp [go_sem]) ?_
  have c2 := World.cell?_setCell_same w1 ⟨w.heap.size, 0, none⟩ (.bool false) c1
  have f2 : (w1.setCell ⟨w.heap.size, 0, none⟩ (.bool false)).frozen? ⟨w.heap.size, 0, none⟩ = false := by simp [f1]
  refine (caughtD_idle ⟨w.heap.size, 0, none⟩ _ c2 f2).mono ?_
  rintro e u' w'' ⟨rfl, rfl, rfl⟩
  have c3 := World.cell?_setCell_same _ ⟨w.heap.size, 0, none⟩ (.bool false) c2
  simp only [Leaves, settle, results, Tryd.results23, go_sem]
  simp [results, go_sem, c3]
  exact ⟨w1, HT.out, rfl⟩

set_option maxHeartbeats 400000 in
/-- impl.caught of a closure that panics. -/
theorem caught_bad_eq (caps : Array Value) (w : World) (T : World → World → Prop)
    (cF : ∀ wx, wx = w.alloc (.cells #[.bool false] 4) → Calls Tryd.prog 24 caps wx fun e w' => (∃ t x, e = .panicked [{ v := .iface t x, recovered := false }]) ∧ T wx w' ∧ w'.cell? ⟨w.heap.size, 0, none⟩ = some (.bool false) ∧ w'.frozen? ⟨w.heap.size, 0, none⟩ = false) :
    Calls Tryd.prog 23 #[.func (.func 24) #[] caps] w fun e w' => e = .returned (.bool true) ∧ ∃ wm, T (w.alloc (.cells #[.bool false] 4)) wm ∧ w' = wm.setCell ⟨w.heap.size, 0, none⟩ (.bool true) := by
  have hmf : ∀ (fn : Fn) (first cap : Array Value) (w : World), (Instr.makeFunc fn first cap).run Tryd.prog w = .ok (.func fn first cap) w := fun _ _ _ _ => rfl
  have CF := Lib.hid cF
  clear cF
  go_enter_defers Tryd.func23, Tryd.ntmps23
  go_wp2_with (go_at_call 24; refine (CF.out _ rfl).mono ?_; rintro e w1 ⟨⟨t, x, rfl⟩, hT, c1, f1⟩; have HT := Lib.hid hT; clear hT)
  refine leaves_cons (f := 40) (args := #[.pointer (some ⟨w.heap.size, 0, none⟩)]) (by simp) (by simp [go_sem]) ?_
  refine (caughtD_panicking ⟨w.heap.size, 0, none⟩ t x [] _ c1 f1).mono ?_
  rintro e u' w'' ⟨rfl, rfl, rfl⟩
  have c3 := World.cell?_setCell_same _ ⟨w.heap.size, 0, none⟩ (.bool true) c1
  simp only [Leaves, settle, results, Tryd.results23, go_sem]
  simp [Leaves, settle, results, Tryd.results23, go_sem, c3]
  exact ⟨w1, HT.out, rfl⟩

set_option maxHeartbeats 400000 in
/-- impl.caught of a closure that returns. -/
theorem caught_ok_attr (caps : Array Value) (w : World) (T : World → World → Prop)
    (cF : ∀ wx, wx = w.alloc (.cells #[.bool false] 4) → Calls Tryd.prog 27 caps wx fun e w' => e = .returned (.tuple #[]) ∧ T wx w' ∧ w'.cell? ⟨w.heap.size, 0, none⟩ = some (.bool false) ∧ w'.frozen? ⟨w.heap.size, 0, none⟩ = false) :
    Calls Tryd.prog 23 #[.func (.func 27) #[] caps] w fun e w' => e = .returned (.bool false) ∧ ∃ wm, T (w.alloc (.cells #[.bool false] 4)) wm ∧ w' = (wm.setCell ⟨w.heap.size, 0, none⟩ (.bool false)).setCell ⟨w.heap.size, 0, none⟩ (.bool false) := by
  have hmf : ∀ (fn : Fn) (first cap : Array Value) (w : World), (Instr.makeFunc fn first cap).run Tryd.prog w = .ok (.func fn first cap) w := fun _ _ _ _ => rfl
  have CF := Lib.hid cF
  clear cF
  go_enter_defers Tryd.func23, Tryd.ntmps23
  go_wp2_with (go_at_call 27; refine (CF.out _ rfl).mono ?_; rintro e w1 ⟨rfl, hT, c1, f1⟩; have HT := Lib.hid hT; clear hT)
  refine leaves_cons (f := 40) (args := #[.pointer (some ⟨w.heap.size, 0, none⟩)]) (by simp) (by simp [go_sem]) ?_
  have c2 := World.cell?_setCell_same w1 ⟨w.heap.size, 0, none⟩ (.bool false) c1
  have f2 : (w1.setCell ⟨w.heap.size, 0, none⟩ (.bool false)).frozen? ⟨w.heap.size, 0, none⟩ = false := by simp [f1]
  refine (caughtD_idle ⟨w.heap.size, 0, none⟩ _ c2 f2).mono ?_
  rintro e u' w'' ⟨rfl, rfl, rfl⟩
  have c3 := World.cell?_setCell_same _ ⟨w.heap.size, 0, none⟩ (.bool false) c2
  simp only [Leaves, settle, results, Tryd.results23, go_sem]
  simp [results, go_sem, c3]
  exact ⟨w1, HT.out, rfl⟩

set_option maxHeartbeats 400000 in
/-- impl.caught of a closure that panics. -/
theorem caught_bad_attr (caps : Array Value) (w : World) (T : World → World → Prop)
    (cF : ∀ wx, wx = w.alloc (.cells #[.bool false] 4) → Calls Tryd.prog 27 caps wx fun e w' => (∃ t x, e = .panicked [{ v := .iface t x, recovered := false }]) ∧ T wx w' ∧ w'.cell? ⟨w.heap.size, 0, none⟩ = some (.bool false) ∧ w'.frozen? ⟨w.heap.size, 0, none⟩ = false) :
    Calls Tryd.prog 23 #[.func (.func 27) #[] caps] w fun e w' => e = .returned (.bool true) ∧ ∃ wm, T (w.alloc (.cells #[.bool false] 4)) wm ∧ w' = wm.setCell ⟨w.heap.size, 0, none⟩ (.bool true) := by
  have hmf : ∀ (fn : Fn) (first cap : Array Value) (w : World), (Instr.makeFunc fn first cap).run Tryd.prog w = .ok (.func fn first cap) w := fun _ _ _ _ => rfl
  have CF := Lib.hid cF
  clear cF
  go_enter_defers Tryd.func23, Tryd.ntmps23
  go_wp2_with (go_at_call 27; refine (CF.out _ rfl).mono ?_; rintro e w1 ⟨⟨t, x, rfl⟩, hT, c1, f1⟩; have HT := Lib.hid hT; clear hT)
  refine leaves_cons (f := 40) (args := #[.pointer (some ⟨w.heap.size, 0, none⟩)]) (by simp) (by simp [go_sem]) ?_
  refine (caughtD_panicking ⟨w.heap.size, 0, none⟩ t x [] _ c1 f1).mono ?_
  rintro e u' w'' ⟨rfl, rfl, rfl⟩
  have c3 := World.cell?_setCell_same _ ⟨w.heap.size, 0, none⟩ (.bool true) c1
  simp only [Leaves, settle, results, Tryd.results23, go_sem]
  simp [Leaves, settle, results, Tryd.results23, go_sem, c3]
  exact ⟨w1, HT.out, rfl⟩

set_option maxHeartbeats 400000 in
/-- impl.caught of a closure that returns. -/
theorem caught_ok_acc (caps : Array Value) (w : World) (T : World → World → Prop)
    (cF : ∀ wx, wx = w.alloc (.cells #[.bool false] 4) → Calls Tryd.prog 29 caps wx fun e w' => e = .returned (.tuple #[]) ∧ T wx w' ∧ w'.cell? ⟨w.heap.size, 0, none⟩ = some (.bool false) ∧ w'.frozen? ⟨w.heap.size, 0, none⟩ = false) :
    Calls Tryd.prog 23 #[.func (.func 29) #[] caps] w fun e w' => e = .returned (.bool false) ∧ ∃ wm, T (w.alloc (.cells #[.bool false] 4)) wm ∧ w' = (wm.setCell ⟨w.heap.size, 0, none⟩ (.bool false)).setCell ⟨w.heap.size, 0, none⟩ (.bool false) := by
  have hmf : ∀ (fn : Fn) (first cap : Array Value) (w : World), (Instr.makeFunc fn first cap).run Tryd.prog w = .ok (.func fn first cap) w := fun _ _ _ _ => rfl
  have CF := Lib.hid cF
  clear cF
  go_enter_defers Tryd.func23, Tryd.ntmps23
  go_wp2_with (go_at_call 29; refine (CF.out _ rfl).mono ?_; rintro e w1 ⟨rfl, hT, c1, f1⟩; have HT := Lib.hid hT; clear hT)
  refine leaves_cons (f := 40) (args := #[.pointer (some ⟨w.heap.size, 0, none⟩)]) (by simp) (by simp [go_sem]) ?_
  have c2 := World.cell?_setCell_same w1 ⟨w.heap.size, 0, none⟩ (.bool false) c1
  have f2 : (w1.setCell ⟨w.heap.size, 0, none⟩ (.bool false)).frozen? ⟨w.heap.size, 0, none⟩ = false := by simp [f1]
  refine (caughtD_idle ⟨w.heap.size, 0, none⟩ _ c2 f2).mono ?_
  rintro e u' w'' ⟨rfl, rfl, rfl⟩
  have c3 := World.cell?_setCell_same _ ⟨w.heap.size, 0, none⟩ (.bool false) c2
  simp only [Leaves, settle, results, Tryd.results23, go_sem]
  simp [results, go_sem, c3]
  exact ⟨w1, HT.out, rfl⟩

set_option maxHeartbeats 400000 in
/-- impl.caught of a closure that panics. -/
theorem caught_bad_acc (caps : Array Value) (w : World) (T : World → World → Prop)
    (cF : ∀ wx, wx = w.alloc (.cells #[.bool false] 4) → Calls Tryd.prog 29 caps wx fun e w' => (∃ t x, e = .panicked [{ v := .iface t x, recovered := false }]) ∧ T wx w' ∧ w'.cell? ⟨w.heap.size, 0, none⟩ = some (.bool false) ∧ w'.frozen? ⟨w.heap.size, 0, none⟩ = false) :
    Calls Tryd.prog 23 #[.func (.func 29) #[] caps] w fun e w' => e = .returned (.bool true) ∧ ∃ wm, T (w.alloc (.cells #[.bool false] 4)) wm ∧ w' = wm.setCell ⟨w.heap.size, 0, none⟩ (.bool true) := by
  have hmf : ∀ (fn : Fn) (first cap : Array Value) (w : World), (Instr.makeFunc fn first cap).run Tryd.prog w = .ok (.func fn first cap) w := fun _ _ _ _ => rfl
  have CF := Lib.hid cF
  clear cF
  go_enter_defers Tryd.func23, Tryd.ntmps23
  go_wp2_with (go_at_call 29; refine (CF.out _ rfl).mono ?_; rintro e w1 ⟨⟨t, x, rfl⟩, hT, c1, f1⟩; have HT := Lib.hid hT; clear hT)
  refine leaves_cons (f := 40) (args := #[.pointer (some ⟨w.heap.size, 0, none⟩)]) (by simp) (by simp [go_sem]) ?_
  refine (caughtD_panicking ⟨w.heap.size, 0, none⟩ t x [] _ c1 f1).mono ?_
  rintro e u' w'' ⟨rfl, rfl, rfl⟩
  have c3 := World.cell?_setCell_same _ ⟨w.heap.size, 0, none⟩ (.bool true) c1
  simp only [Leaves, settle, results, Tryd.results23, go_sem]
  simp [Leaves, settle, results, Tryd.results23, go_sem, c3]
  exact ⟨w1, HT.out, rfl⟩

end Go.Proofs.YtcgdnjigocknbaaDoor.Va

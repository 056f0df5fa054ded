/- impl.Equal. -/
import Derived.Test.YtcgdnjigocknbaaDoorClos
namespace Go.Proofs.YtcgdnjigocknbaaDoor.Va
set_option linter.unusedVariables false
set_option linter.unusedSimpArgs false
open Go Go.RowKit

/-- What a caught comparison comes to. -/
def CmpEnd (r : Bool × Bool) (g : Nat) (W : World) (e : Ending) (w' : World) : Prop :=
  e = .returned (.bool r.2) ∧ w'.cell? ⟨g, 0, none⟩ = some (.bool (r.1 && !r.2)) ∧ w'.frozen? ⟨g, 0, none⟩ = false ∧ But g W w'

theorem cmp_ok {r1 : Bool} {g : Nat} {W wm : World} (lg : g < W.heap.size) (hc : wm.cell? ⟨g, 0, none⟩ = some (.bool r1)) (hf : wm.frozen? ⟨g, 0, none⟩ = false) (hb : But g (W.alloc (.cells #[.bool false] 4)) wm) :
    CmpEnd (r1, false) g W (.returned (.bool false)) ((wm.setCell ⟨W.heap.size, 0, none⟩ (.bool false)).setCell ⟨W.heap.size, 0, none⟩ (.bool false)) := by
  have h1 : But g W wm := (But.trans (World.grownBy_alloc _ _ _) hb)
  have hne : (⟨W.heap.size, 0, none⟩ : Addr) ≠ ⟨g, 0, none⟩ := by intro h; cases h; omega
  refine ⟨rfl, ?_, ?_, (h1.setOwn _ (Nat.le_refl _) _).setOwn _ (Nat.le_refl _) _⟩
  · simp only [Bool.not_false, Bool.and_true]
    rw [World.cell?_setCell_other _ _ _ _ hne, World.cell?_setCell_other _ _ _ _ hne]
    exact hc
  · rw [World.frozen?_setCell, World.frozen?_setCell]
    exact hf

theorem cmp_bad {r1 : Bool} {g : Nat} {W wm : World} (lg : g < W.heap.size) (c0 : W.cell? ⟨g, 0, none⟩ = some (.bool false)) (f0 : W.frozen? ⟨g, 0, none⟩ = false) (hb : Below (W.alloc (.cells #[.bool false] 4)).heap.size (W.alloc (.cells #[.bool false] 4)) wm) :
    CmpEnd (r1, true) g W (.returned (.bool true)) (wm.setCell ⟨W.heap.size, 0, none⟩ (.bool true)) := by
  have h1 : But g W wm := (But.trans (World.grownBy_alloc _ _ _) (But.of_below hb))
  have hB : Below W.heap.size W wm := ((Below.refl _ _).alloc (Nat.le_refl _) _).trans (hb.mono (by simp))
  have hne : (⟨W.heap.size, 0, none⟩ : Addr) ≠ ⟨g, 0, none⟩ := by intro h; cases h; omega
  refine ⟨rfl, ?_, ?_, h1.setOwn _ (Nat.le_refl _) _⟩
  · simp only [Bool.not_true, Bool.and_false]
    rw [World.cell?_setCell_other _ _ _ _ hne]
    exact (hB.cell (p := ⟨g, 0, none⟩) lg).trans c0
  · rw [World.frozen?_setCell]
    exact (hB.frozen (p := ⟨g, 0, none⟩) lg).trans f0

theorem own_box {g : Nat} {W w' : World} (lg : g < W.heap.size) (hb : But g (W.alloc (.cells #[.bool false] 4)) w') : w'.cell? ⟨W.heap.size, 0, none⟩ = some (.bool false) ∧ w'.frozen? ⟨W.heap.size, 0, none⟩ = false :=
  ⟨(hb.cell (by simp) (by omega)).trans (cell_new _ _ _ _ _ _ rfl rfl), (hb.frozen (by simp) (by omega)).trans (World.frozen?_alloc_new _ _ _ _)⟩

/-- impl.caught of the comparison, at its boxes. -/
theorem caughtEq_any (da db : GVal) (sa sb : SVal) (r : Bool × Bool) (W : World) (A A' : Option Addr) (len cap len' cap' ba bb g : Nat)
    (cA : ∀ wx, Keeps W wx → Calls Tryd.prog 25 #[vVal da A len cap, .pointer none] wx (ValPost sa wx))
    (cB : ∀ wx, Keeps W wx → Calls Tryd.prog 25 #[vVal db A' len' cap', .pointer none] wx (ValPost sb wx))
    (cE : ∀ (wx : World) (x y x' y' : Value), (∃ P P' : Nat → Prop, (∀ b, P b → ¬ P' b) ∧ RSV P wx sa x y ∧ RSV P' wx sb x' y') → Calls Tryd.prog 26 #[.agg #[x, y], .agg #[x', y']] wx (EqEnd r wx))
    (hA : Box W ba da A len cap) (hB : Box W bb db A' len' cap') (c0 : W.cell? ⟨g, 0, none⟩ = some (.bool false)) (f0 : W.frozen? ⟨g, 0, none⟩ = false) :
    Calls Tryd.prog 23 #[.func (.func 24) #[] #[.pointer (some ⟨ba, 0, none⟩), .pointer (some ⟨bb, 0, none⟩), .pointer (some ⟨g, 0, none⟩)]] W (CmpEnd r g W) := by
  have lg : g < W.heap.size := World.block_lt_of_cell? _ _ c0
  have hk : Keeps W (W.alloc (.cells #[.bool false] 4)) := keeps_of_below ((Below.refl _ _).alloc (Nat.le_refl _) _)
  have hkb : Below W.heap.size W (W.alloc (.cells #[.bool false] 4)) := (Below.refl _ _).alloc (Nat.le_refl _) _
  have c1 := (hkb.cell (p := ⟨g, 0, none⟩) lg).trans c0
  have f1 := (hkb.frozen (p := ⟨g, 0, none⟩) lg).trans f0
  obtain ⟨r1, r2⟩ := r
  cases r2 with
  | false =>
    refine (caught_ok_eq _ W (fun wx w' => w'.cell? ⟨g, 0, none⟩ = some (.bool r1) ∧ w'.frozen? ⟨g, 0, none⟩ = false ∧ But g wx w') ?_).mono ?_
    · rintro wx rfl
      refine (eqClos_ok da db sa sb r1 _ A A' len cap len' cap' ba bb g (fun wx hx => cA wx (hk.trans hx)) (fun wx hx => cB wx (hk.trans hx)) (fun wx x y x' y' h => (cE wx x y x' y' h).mono fun e w' hh => ?_) (hA.keep hk) (hB.keep hk) c1 f1).mono ?_
      · rcases hh with ⟨⟨_, hh⟩ | ⟨hh, _⟩, hb⟩
        · exact ⟨hh, hb⟩
        · cases hh
      · rintro e w' ⟨he, h1, h2, h3⟩
        exact ⟨he, ⟨h1, h2, h3⟩, own_box lg h3⟩
    · rintro e w' ⟨rfl, wm, ⟨h1, h2, h3⟩, rfl⟩
      exact cmp_ok lg h1 h2 h3
  | true =>
    refine (caught_bad_eq _ W (fun wx w' => Below wx.heap.size wx w') ?_).mono ?_
    · rintro wx rfl
      refine (eqClos_bad da db sa sb _ A A' len cap len' cap' ba bb g (fun wx hx => cA wx (hk.trans hx)) (fun wx hx => cB wx (hk.trans hx)) (fun wx x y x' y' h => (cE wx x y x' y' h).mono fun e w' hh => ?_) (hA.keep hk) (hB.keep hk) c1 f1).mono ?_
      · rcases hh with ⟨⟨hh, _⟩ | ⟨_, hh⟩, hb⟩
        · cases hh
        · exact ⟨hh, hb⟩
      · rintro e w' ⟨he, h1⟩
        exact ⟨he, h1, own_box lg (But.of_below h1)⟩
    · rintro e w' ⟨rfl, wm, h1, rfl⟩
      exact cmp_bad lg c0 f0 h1

theorem keeps_drew (w : World) : Keeps w w.drew := fun _ _ => rfl
theorem keeps_alloc (w : World) (o : Obj) : Keeps w (w.alloc o) := keeps_of_below ((Below.refl _ _).alloc (Nat.le_refl _) _)
theorem box_new (w : World) (t : TypeId) (d : GVal) (A : Option Addr) (len cap n : Nat) (hn : n = w.heap.size) : Box (w.alloc (.cells #[.int .i64 d.kind, .int .u64 d.n, .string d.s, .int .i64 d.t.sec, .int .i64 d.t.nsec, .int .i64 d.t.off, .slice A len cap] t)) n d A len cap :=
  ⟨cell_new _ _ _ _ _ _ hn rfl, cell_new _ _ _ _ _ _ hn rfl, cell_new _ _ _ _ _ _ hn rfl, cell_new _ _ _ _ _ _ hn rfl, cell_new _ _ _ _ _ _ hn rfl, cell_new _ _ _ _ _ _ hn rfl, cell_new _ _ _ _ _ _ hn rfl⟩

/-- What impl.Equal hands back. -/
def PairEnd (r : Bool × Bool) (w : World) (e : Ending) (w' : World) : Prop := e = .returned (.tuple #[.bool (r.1 && !r.2), .bool r.2]) ∧ Below w.heap.size w w'

set_option maxRecDepth 100000 in
set_option maxHeartbeats 400000 in
theorem implEq_any (da db : GVal) (sa sb : SVal) (r : Bool × Bool) (w : World) (A A' : Option Addr) (len cap len' cap' : Nat)
    (cA : ∀ wx, Keeps w wx → Calls Tryd.prog 25 #[vVal da A len cap, .pointer none] wx (ValPost sa wx))
    (cB : ∀ wx, Keeps w wx → Calls Tryd.prog 25 #[vVal db A' len' cap', .pointer none] wx (ValPost sb wx))
    (cE : ∀ (wx : World) (x y x' y' : Value), (∃ P P' : Nat → Prop, (∀ b, P b → ¬ P' b) ∧ RSV P wx sa x y ∧ RSV P' wx sb x' y') → Calls Tryd.prog 26 #[.agg #[x, y], .agg #[x', y']] wx (EqEnd r wx)) :
    Calls Tryd.prog 11 #[vVal da A len cap, vVal db A' len' cap'] w (PairEnd r w) := by
  have hmf : ∀ (fn : Fn) (first cap : Array Value) (w : World), (Instr.makeFunc fn first cap).run Tryd.prog w = .ok (.func fn first cap) w := fun _ _ _ _ => rfl
  obtain ⟨Q, hQ⟩ : ∃ Q, Q = PairEnd r w := ⟨_, rfl⟩
  rw [← hQ]
  have HQ := Lib.hid hQ
  have CK := Lib.hid (fun W (hk : Keeps w W) ba bb g => caughtEq_any da db sa sb r W A A' len cap len' cap' ba bb g (fun wx hx => cA wx (hk.trans hx)) (fun wx hx => cB wx (hk.trans hx)) cE)
  clear cA cB cE hQ
  unfold vVal
  go_enter Tryd.func11, Tryd.ntmps11
  go_wp2_with (go_at_call 23; refine (CK.out _ (keeps_of_below (by repeat' (first | with_reducible assumption | with_reducible exact Below.refl _ _ | with_reducible refine Below.setCell ?_ ?_ _ | with_reducible refine Below.alloc ?_ ?_ _ | with_reducible refine Below.drew ?_ | with_reducible refine below_drewN ?_ _ | omega | (simp; done) | (simp; omega)))) _ _ _ (((box_new w _ da A len cap _ rfl).keep (keeps_alloc _ _)).keep (keeps_alloc _ _)) ((box_new _ _ db A' len' cap' _ (by simp)).keep (keeps_alloc _ _)) (cell_new _ _ _ _ _ _ (by simp) rfl) (World.frozen?_alloc_at _ _ _ _ (by simp))).mono ?_; rintro e w1 ⟨rfl, h1, h2, h3⟩; have hB := But.own (W := w) (by repeat' (first | with_reducible assumption | with_reducible exact Below.refl _ _ | with_reducible refine Below.setCell ?_ ?_ _ | with_reducible refine Below.alloc ?_ ?_ _ | with_reducible refine Below.drew ?_ | with_reducible refine below_drewN ?_ _ | omega | (simp; done) | (simp; omega))) (by omega) h3; clear h3)
  have c9 := World.cell?_setCell_same w1 ⟨w.heap.size + 1 + 1, 0, none⟩ (.bool (r.1 && !r.2)) h1
  exact bodyPost_ret (v := .tuple #[.bool (r.1 && !r.2), .bool r.2]) (by simp [results, Tryd.results11, go_sem, c9]) rfl (by rw [HQ.out]; exact ⟨rfl, hB.setCell (by simp; omega) _⟩)

end Go.Proofs.YtcgdnjigocknbaaDoor.Va

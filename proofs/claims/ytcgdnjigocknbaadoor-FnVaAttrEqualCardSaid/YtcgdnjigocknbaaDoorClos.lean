/- impl.Equal: its closure, and itself. -/
import Derived.Test.YtcgdnjigocknbaaDoorBut
import Derived.Test.YtcgdnjigocknbaaDoorOfD
import Derived.Test.YtcgdnjigocknbaaDoorSEqE
namespace Go.Proofs.YtcgdnjigocknbaaDoor.Va
set_option linter.unusedVariables false
set_option linter.unusedSimpArgs false
open Go Go.RowKit

/-- A Val lies in a box of its own. -/
def Box (w : World) (b : Nat) (d : GVal) (A : Option Addr) (len cap : Nat) : Prop :=
  w.cell? ⟨b, 0, none⟩ = some (.int .i64 d.kind) ∧ w.cell? ⟨b, 1, none⟩ = some (.int .u64 d.n) ∧ w.cell? ⟨b, 2, none⟩ = some (.string d.s) ∧ w.cell? ⟨b, 3, none⟩ = some (.int .i64 d.t.sec) ∧ w.cell? ⟨b, 4, none⟩ = some (.int .i64 d.t.nsec) ∧ w.cell? ⟨b, 5, none⟩ = some (.int .i64 d.t.off) ∧ w.cell? ⟨b, 6, none⟩ = some (.slice A len cap)
theorem Box.keep {w w' : World} {b : Nat} {d : GVal} {A : Option Addr} {len cap : Nat} (h : Box w b d A len cap) (hk : Keeps w w') : Box w' b d A len cap :=
  ⟨hk.cell h.1, hk.cell h.2.1, hk.cell h.2.2.1, hk.cell h.2.2.2.1, hk.cell h.2.2.2.2.1, hk.cell h.2.2.2.2.2.1, hk.cell h.2.2.2.2.2.2⟩

/-- Blocks from a number on, below another one. -/
abbrev Span (lo hi : Nat) : Nat → Prop := fun b => lo ≤ b ∧ b < hi

theorem two_rsv {n0 : Nat} {wa wb : World} {sa sb : SVal} {xa ya xb yb : Value} (ha : RSV (fun b => n0 ≤ b) wa sa xa ya) (hab : Keeps wa wb) (hb : RSV (fun b => wa.heap.size ≤ b) wb sb xb yb) :
    (∃ P P' : Nat → Prop, (∀ b, P b → ¬ P' b) ∧ RSV P wb sa xa ya ∧ RSV P' wb sb xb yb) ∧ (∃ P P' : Nat → Prop, (∀ b, P b → ¬ P' b) ∧ RSV P wb sb xb yb ∧ RSV P' wb sa xa ya) := by
  have h1 : RSV (fun b => b < wa.heap.size) wb sa xa ya := (ha.turn (KeepsOn.refl _ _) (fun b _ h => h)).turn (hab.on _) (fun b h _ => h)
  exact ⟨⟨_, _, fun b h h' => by omega, h1, hb⟩, ⟨_, _, fun b h h' => by omega, hb, h1⟩⟩

theorem eqClos_end {g : Nat} {w w3 : World} (b : Bool) (h : Below w.heap.size w w3) (lg : g < w.heap.size) (c0 : w.cell? ⟨g, 0, none⟩ = some (.bool false)) (f0 : w.frozen? ⟨g, 0, none⟩ = false) : (w3.setCell ⟨g, 0, none⟩ (.bool b)).cell? ⟨g, 0, none⟩ = some (.bool b) ∧ (w3.setCell ⟨g, 0, none⟩ (.bool b)).frozen? ⟨g, 0, none⟩ = false ∧ But g w (w3.setCell ⟨g, 0, none⟩ (.bool b)) :=
  ⟨World.cell?_setCell_same _ _ _ ((h.cell (p := ⟨g, 0, none⟩) lg).trans c0), (World.frozen?_setCell _ _ _ _).trans ((h.frozen (p := ⟨g, 0, none⟩) lg).trans f0), (But.of_below h).set 0 _⟩

set_option maxRecDepth 100000 in
set_option maxHeartbeats 1000000 in
theorem eqClos_ok (da db : GVal) (sa sb : SVal) (r1 : Bool) (w : World) (A A' : Option Addr) (len cap len' cap' ba bb g : Nat)
    (cA : ∀ wx, Keeps w wx → Calls Tryd.prog 25 #[vVal da A len cap, .pointer none] wx (ValPost sa wx))
    (cB : ∀ wx, Keeps w wx → Calls Tryd.prog 25 #[vVal db A' len' cap', .pointer none] wx (ValPost sb wx))
    (cE : ∀ (wx : World) (x y x' y' : Value), (∃ P P' : Nat → Prop, (∀ b, P b → ¬ P' b) ∧ RSV P wx sa x y ∧ RSV P' wx sb x' y') → Calls Tryd.prog 26 #[.agg #[x, y], .agg #[x', y']] wx fun e w' => e = .returned (.bool r1) ∧ Below wx.heap.size wx w')
    (hA : Box w ba da A len cap) (hB : Box w bb db A' len' cap') (c0 : w.cell? ⟨g, 0, none⟩ = some (.bool false)) (f0 : w.frozen? ⟨g, 0, none⟩ = false) :
    Calls Tryd.prog 24 #[.pointer (some ⟨ba, 0, none⟩), .pointer (some ⟨bb, 0, none⟩), .pointer (some ⟨g, 0, none⟩)] w fun e w' => e = .returned (.tuple #[]) ∧ w'.cell? ⟨g, 0, none⟩ = some (.bool r1) ∧ w'.frozen? ⟨g, 0, none⟩ = false ∧ But g w w' := by
  have la : ba < w.heap.size := World.block_lt_of_cell? _ _ hA.1
  have lb : bb < w.heap.size := World.block_lt_of_cell? _ _ hB.1
  have lg : g < w.heap.size := World.block_lt_of_cell? _ _ c0
  obtain ⟨Q, hQ⟩ : ∃ Q : Ending → World → Prop, Q = fun e w' => e = .returned (.tuple #[]) ∧ w'.cell? ⟨g, 0, none⟩ = some (.bool r1) ∧ w'.frozen? ⟨g, 0, none⟩ = false ∧ But g w w' := ⟨_, rfl⟩
  rw [← hQ]
  have HQ := Lib.hid hQ
  have CA := Lib.hid cA
  have CB := Lib.hid cB
  have CE := Lib.hid cE
  have HXA := Lib.hid hA
  have HXB := Lib.hid hB
  obtain ⟨a0, a1, a2, a3, a4, a5, a6⟩ := hA
  obtain ⟨b0, b1, b2, b3, b4, b5, b6⟩ := hB
  clear cA cB cE hQ
  unfold vVal at CA CB
  go_enter Tryd.func24, Tryd.ntmps24
  go_wp2
  go_region_with (first
    | (go_at_call 25; first
      | ((with_reducible refine (CA.out _ (keeps_of_below (by repeat' (first | with_reducible assumption | with_reducible exact Below.refl _ _ | with_reducible refine Below.setCell ?_ ?_ _ | with_reducible refine Below.alloc ?_ ?_ _ | with_reducible refine Below.drew ?_ | with_reducible refine below_drewN ?_ _ | omega | (simp; done) | (simp; omega))))).mono ?_); rintro e wa ⟨xa, ya, rfl, hra, hba⟩; have HRA := Lib.hid hra; have HKA := Lib.hid (keeps_of_below hba); have hBa := keeps_below (show Below w.heap.size w _ from (by repeat' (first | with_reducible assumption | with_reducible exact Below.refl _ _ | with_reducible refine Below.setCell ?_ ?_ _ | with_reducible refine Below.alloc ?_ ?_ _ | with_reducible refine Below.drew ?_ | with_reducible refine below_drewN ?_ _ | omega | (simp; done) | (simp; omega)))) hba; obtain ⟨p0, p1, p2, p3, p4, p5, p6⟩ := HXB.out.keep (keeps_of_below hBa); clear hra hba)
      | ((with_reducible refine (CB.out _ (keeps_of_below (by repeat' (first | with_reducible assumption | with_reducible exact Below.refl _ _ | with_reducible refine Below.setCell ?_ ?_ _ | with_reducible refine Below.alloc ?_ ?_ _ | with_reducible refine Below.drew ?_ | with_reducible refine below_drewN ?_ _ | omega | (simp; done) | (simp; omega))))).mono ?_); rintro e wb ⟨xb, yb, rfl, hrb, hbb⟩; have HRB := Lib.hid hrb; have HKB := Lib.hid (keeps_of_below hbb); have hBb := keeps_below (show Below w.heap.size w _ from (by repeat' (first | with_reducible assumption | with_reducible exact Below.refl _ _ | with_reducible refine Below.setCell ?_ ?_ _ | with_reducible refine Below.alloc ?_ ?_ _ | with_reducible refine Below.drew ?_ | with_reducible refine below_drewN ?_ _ | omega | (simp; done) | (simp; omega)))) hbb; obtain ⟨q0, q1, q2, q3, q4, q5, q6⟩ := HXA.out.keep (keeps_of_below hBb); clear hrb hbb))
    | (go_at_call 26; refine (CE.out _ _ _ _ _ (by first | exact (two_rsv HRA.out HKB.out HRB.out).1 | exact (two_rsv HRB.out HKA.out HRA.out).2)).mono ?_; rintro e w3 ⟨rfl, hb3⟩; have hB3 := keeps_below (show Below w.heap.size w _ from (by repeat' (first | with_reducible assumption | with_reducible exact Below.refl _ _ | with_reducible refine Below.setCell ?_ ?_ _ | with_reducible refine Below.alloc ?_ ?_ _ | with_reducible refine Below.drew ?_ | with_reducible refine below_drewN ?_ _ | omega | (simp; done) | (simp; omega)))) hb3; have c3 := ((bcell hB3).1 g 0 lg).trans c0; have f3 := ((bcell hB3).2 g 0 lg).trans f0; clear hb3))
  all_goals
    go_end0
    rw [HQ.out]
    exact ⟨rfl, eqClos_end _ hB3 lg c0 f0⟩

--BAD
set_option maxRecDepth 100000 in
set_option maxHeartbeats 1000000 in
theorem eqClos_bad (da db : GVal) (sa sb : SVal) (w : World) (A A' : Option Addr) (len cap len' cap' ba bb g : Nat)
    (cA : ∀ wx, Keeps w wx → Calls Tryd.prog 25 #[vVal da A len cap, .pointer none] wx (ValPost sa wx))
    (cB : ∀ wx, Keeps w wx → Calls Tryd.prog 25 #[vVal db A' len' cap', .pointer none] wx (ValPost sb wx))
    (cE : ∀ (wx : World) (x y x' y' : Value), (∃ P P' : Nat → Prop, (∀ b, P b → ¬ P' b) ∧ RSV P wx sa x y ∧ RSV P' wx sb x' y') → Calls Tryd.prog 26 #[.agg #[x, y], .agg #[x', y']] wx fun e w' => (∃ t v, e = .panicked [{ v := .iface t v, recovered := false }]) ∧ Below wx.heap.size wx w')
    (hA : Box w ba da A len cap) (hB : Box w bb db A' len' cap') (c0 : w.cell? ⟨g, 0, none⟩ = some (.bool false)) (f0 : w.frozen? ⟨g, 0, none⟩ = false) :
    Calls Tryd.prog 24 #[.pointer (some ⟨ba, 0, none⟩), .pointer (some ⟨bb, 0, none⟩), .pointer (some ⟨g, 0, none⟩)] w fun e w' => (∃ t v, e = .panicked [{ v := .iface t v, recovered := false }]) ∧ Below w.heap.size w w' := by
  have la : ba < w.heap.size := World.block_lt_of_cell? _ _ hA.1
  have lb : bb < w.heap.size := World.block_lt_of_cell? _ _ hB.1
  have lg : g < w.heap.size := World.block_lt_of_cell? _ _ c0
  obtain ⟨Q, hQ⟩ : ∃ Q : Ending → World → Prop, Q = fun e w' => (∃ t v, e = .panicked [{ v := .iface t v, recovered := false }]) ∧ Below w.heap.size w w' := ⟨_, rfl⟩
  rw [← hQ]
  have HQ := Lib.hid hQ
  have CA := Lib.hid cA
  have CB := Lib.hid cB
  have CE := Lib.hid cE
  have HXA := Lib.hid hA
  have HXB := Lib.hid hB
  obtain ⟨a0, a1, a2, a3, a4, a5, a6⟩ := hA
  obtain ⟨b0, b1, b2, b3, b4, b5, b6⟩ := hB
  clear cA cB cE hQ
  unfold vVal at CA CB
  go_enter Tryd.func24, Tryd.ntmps24
  go_wp2
  refine wp_region_any (by kernel_rfl) ?_
  change wpAny _ _ _ _ _ _ _ (World.drew _)
  refine wpAny_ready (rs := [0, 2]) (by kernel_rfl) (by simp) ?_
  refine AllReady.cons rfl (fun K hK => ?_) ?_
  · go_simp
    refine hK _ _ ?_
    clear hK K
    refine wpAny_ready (rs := [1, 2]) (by kernel_rfl) (by simp) ?_
    refine AllReady.cons rfl (fun K hK => ?_) ?_
    · go_simp
      go_wp2_with (go_at_call 25; first | ((with_reducible refine (CA.out _ (keeps_of_below (by repeat' (first | with_reducible assumption | with_reducible exact Below.refl _ _ | with_reducible refine Below.setCell ?_ ?_ _ | with_reducible refine Below.alloc ?_ ?_ _ | with_reducible refine Below.drew ?_ | with_reducible refine below_drewN ?_ _ | omega | (simp; done) | (simp; omega))))).mono ?_); rintro e wa ⟨xa, ya, rfl, hra, hba⟩; have HRA := Lib.hid hra; have HKA := Lib.hid (keeps_of_below hba); have hBa := keeps_below (show Below w.heap.size w _ from (by repeat' (first | with_reducible assumption | with_reducible exact Below.refl _ _ | with_reducible refine Below.setCell ?_ ?_ _ | with_reducible refine Below.alloc ?_ ?_ _ | with_reducible refine Below.drew ?_ | with_reducible refine below_drewN ?_ _ | omega | (simp; done) | (simp; omega)))) hba; obtain ⟨p0, p1, p2, p3, p4, p5, p6⟩ := HXB.out.keep (keeps_of_below hBa); clear hra hba) | ((with_reducible refine (CB.out _ (keeps_of_below (by repeat' (first | with_reducible assumption | with_reducible exact Below.refl _ _ | with_reducible refine Below.setCell ?_ ?_ _ | with_reducible refine Below.alloc ?_ ?_ _ | with_reducible refine Below.drew ?_ | with_reducible refine below_drewN ?_ _ | omega | (simp; done) | (simp; omega))))).mono ?_); rintro e wb ⟨xb, yb, rfl, hrb, hbb⟩; have HRB := Lib.hid hrb; have HKB := Lib.hid (keeps_of_below hbb); have hBb := keeps_below (show Below w.heap.size w _ from (by repeat' (first | with_reducible assumption | with_reducible exact Below.refl _ _ | with_reducible refine Below.setCell ?_ ?_ _ | with_reducible refine Below.alloc ?_ ?_ _ | with_reducible refine Below.drew ?_ | with_reducible refine below_drewN ?_ _ | omega | (simp; done) | (simp; omega)))) hbb; obtain ⟨q0, q1, q2, q3, q4, q5, q6⟩ := HXA.out.keep (keeps_of_below hBb); clear hrb hbb))
      refine wpAny_ready (rs := [2]) (by kernel_rfl) (by simp) ?_
      refine AllReady.cons rfl (fun K hK => ?_) ?_
      · go_simp
        refine hK _ _ ?_
        clear hK K
        refine wpAny_ready (rs := [3]) (by kernel_rfl) (by simp) ?_
        refine AllReady.cons rfl (fun K hK => ?_) ?_
        · go_simp
          go_wp2_with (go_at_call 25; first | ((with_reducible refine (CA.out _ (keeps_of_below (by repeat' (first | with_reducible assumption | with_reducible exact Below.refl _ _ | with_reducible refine Below.setCell ?_ ?_ _ | with_reducible refine Below.alloc ?_ ?_ _ | with_reducible refine Below.drew ?_ | with_reducible refine below_drewN ?_ _ | omega | (simp; done) | (simp; omega))))).mono ?_); rintro e wa ⟨xa, ya, rfl, hra, hba⟩; have HRA := Lib.hid hra; have HKA := Lib.hid (keeps_of_below hba); have hBa := keeps_below (show Below w.heap.size w _ from (by repeat' (first | with_reducible assumption | with_reducible exact Below.refl _ _ | with_reducible refine Below.setCell ?_ ?_ _ | with_reducible refine Below.alloc ?_ ?_ _ | with_reducible refine Below.drew ?_ | with_reducible refine below_drewN ?_ _ | omega | (simp; done) | (simp; omega)))) hba; obtain ⟨p0, p1, p2, p3, p4, p5, p6⟩ := HXB.out.keep (keeps_of_below hBa); clear hra hba) | ((with_reducible refine (CB.out _ (keeps_of_below (by repeat' (first | with_reducible assumption | with_reducible exact Below.refl _ _ | with_reducible refine Below.setCell ?_ ?_ _ | with_reducible refine Below.alloc ?_ ?_ _ | with_reducible refine Below.drew ?_ | with_reducible refine below_drewN ?_ _ | omega | (simp; done) | (simp; omega))))).mono ?_); rintro e wb ⟨xb, yb, rfl, hrb, hbb⟩; have HRB := Lib.hid hrb; have HKB := Lib.hid (keeps_of_below hbb); have hBb := keeps_below (show Below w.heap.size w _ from (by repeat' (first | with_reducible assumption | with_reducible exact Below.refl _ _ | with_reducible refine Below.setCell ?_ ?_ _ | with_reducible refine Below.alloc ?_ ?_ _ | with_reducible refine Below.drew ?_ | with_reducible refine below_drewN ?_ _ | omega | (simp; done) | (simp; omega)))) hbb; obtain ⟨q0, q1, q2, q3, q4, q5, q6⟩ := HXA.out.keep (keeps_of_below hBb); clear hrb hbb))
          refine wpAny_ready (rs := [4]) (by kernel_rfl) (by simp) ?_
          refine AllReady.cons rfl (fun K hK => ?_) ?_
          · go_simp
            go_wp2_with (go_at_call 26; refine (CE.out _ _ _ _ _ (by first | exact (two_rsv HRA.out HKB.out HRB.out).1 | exact (two_rsv HRB.out HKA.out HRA.out).2)).mono ?_; rintro e w3 ⟨⟨tx, vx, rfl⟩, hb3⟩; have hB3 := keeps_below (show Below w.heap.size w _ from (by repeat' (first | with_reducible assumption | with_reducible exact Below.refl _ _ | with_reducible refine Below.setCell ?_ ?_ _ | with_reducible refine Below.alloc ?_ ?_ _ | with_reducible refine Below.drew ?_ | with_reducible refine below_drewN ?_ _ | omega | (simp; done) | (simp; omega)))) hb3; exact ⟨rfl, (by rw [HQ.out]; exact ⟨⟨_, _, rfl⟩, hB3⟩)⟩)
          exact AllReady.nil
        exact AllReady.nil
      exact AllReady.nil
    refine AllReady.cons rfl (fun K hK => ?_) ?_
    · go_simp
      refine hK _ _ ?_
      clear hK K
      refine wpAny_ready (rs := [1]) (by kernel_rfl) (by simp) ?_
      refine AllReady.cons rfl (fun K hK => ?_) ?_
      · go_simp
        go_wp2_with (go_at_call 25; first | ((with_reducible refine (CA.out _ (keeps_of_below (by repeat' (first | with_reducible assumption | with_reducible exact Below.refl _ _ | with_reducible refine Below.setCell ?_ ?_ _ | with_reducible refine Below.alloc ?_ ?_ _ | with_reducible refine Below.drew ?_ | with_reducible refine below_drewN ?_ _ | omega | (simp; done) | (simp; omega))))).mono ?_); rintro e wa ⟨xa, ya, rfl, hra, hba⟩; have HRA := Lib.hid hra; have HKA := Lib.hid (keeps_of_below hba); have hBa := keeps_below (show Below w.heap.size w _ from (by repeat' (first | with_reducible assumption | with_reducible exact Below.refl _ _ | with_reducible refine Below.setCell ?_ ?_ _ | with_reducible refine Below.alloc ?_ ?_ _ | with_reducible refine Below.drew ?_ | with_reducible refine below_drewN ?_ _ | omega | (simp; done) | (simp; omega)))) hba; obtain ⟨p0, p1, p2, p3, p4, p5, p6⟩ := HXB.out.keep (keeps_of_below hBa); clear hra hba) | ((with_reducible refine (CB.out _ (keeps_of_below (by repeat' (first | with_reducible assumption | with_reducible exact Below.refl _ _ | with_reducible refine Below.setCell ?_ ?_ _ | with_reducible refine Below.alloc ?_ ?_ _ | with_reducible refine Below.drew ?_ | with_reducible refine below_drewN ?_ _ | omega | (simp; done) | (simp; omega))))).mono ?_); rintro e wb ⟨xb, yb, rfl, hrb, hbb⟩; have HRB := Lib.hid hrb; have HKB := Lib.hid (keeps_of_below hbb); have hBb := keeps_below (show Below w.heap.size w _ from (by repeat' (first | with_reducible assumption | with_reducible exact Below.refl _ _ | with_reducible refine Below.setCell ?_ ?_ _ | with_reducible refine Below.alloc ?_ ?_ _ | with_reducible refine Below.drew ?_ | with_reducible refine below_drewN ?_ _ | omega | (simp; done) | (simp; omega)))) hbb; obtain ⟨q0, q1, q2, q3, q4, q5, q6⟩ := HXA.out.keep (keeps_of_below hBb); clear hrb hbb))
        refine wpAny_ready (rs := [3]) (by kernel_rfl) (by simp) ?_
        refine AllReady.cons rfl (fun K hK => ?_) ?_
        · go_simp
          go_wp2_with (go_at_call 25; first | ((with_reducible refine (CA.out _ (keeps_of_below (by repeat' (first | with_reducible assumption | with_reducible exact Below.refl _ _ | with_reducible refine Below.setCell ?_ ?_ _ | with_reducible refine Below.alloc ?_ ?_ _ | with_reducible refine Below.drew ?_ | with_reducible refine below_drewN ?_ _ | omega | (simp; done) | (simp; omega))))).mono ?_); rintro e wa ⟨xa, ya, rfl, hra, hba⟩; have HRA := Lib.hid hra; have HKA := Lib.hid (keeps_of_below hba); have hBa := keeps_below (show Below w.heap.size w _ from (by repeat' (first | with_reducible assumption | with_reducible exact Below.refl _ _ | with_reducible refine Below.setCell ?_ ?_ _ | with_reducible refine Below.alloc ?_ ?_ _ | with_reducible refine Below.drew ?_ | with_reducible refine below_drewN ?_ _ | omega | (simp; done) | (simp; omega)))) hba; obtain ⟨p0, p1, p2, p3, p4, p5, p6⟩ := HXB.out.keep (keeps_of_below hBa); clear hra hba) | ((with_reducible refine (CB.out _ (keeps_of_below (by repeat' (first | with_reducible assumption | with_reducible exact Below.refl _ _ | with_reducible refine Below.setCell ?_ ?_ _ | with_reducible refine Below.alloc ?_ ?_ _ | with_reducible refine Below.drew ?_ | with_reducible refine below_drewN ?_ _ | omega | (simp; done) | (simp; omega))))).mono ?_); rintro e wb ⟨xb, yb, rfl, hrb, hbb⟩; have HRB := Lib.hid hrb; have HKB := Lib.hid (keeps_of_below hbb); have hBb := keeps_below (show Below w.heap.size w _ from (by repeat' (first | with_reducible assumption | with_reducible exact Below.refl _ _ | with_reducible refine Below.setCell ?_ ?_ _ | with_reducible refine Below.alloc ?_ ?_ _ | with_reducible refine Below.drew ?_ | with_reducible refine below_drewN ?_ _ | omega | (simp; done) | (simp; omega)))) hbb; obtain ⟨q0, q1, q2, q3, q4, q5, q6⟩ := HXA.out.keep (keeps_of_below hBb); clear hrb hbb))
          refine wpAny_ready (rs := [4]) (by kernel_rfl) (by simp) ?_
          refine AllReady.cons rfl (fun K hK => ?_) ?_
          · go_simp
            go_wp2_with (go_at_call 26; refine (CE.out _ _ _ _ _ (by first | exact (two_rsv HRA.out HKB.out HRB.out).1 | exact (two_rsv HRB.out HKA.out HRA.out).2)).mono ?_; rintro e w3 ⟨⟨tx, vx, rfl⟩, hb3⟩; have hB3 := keeps_below (show Below w.heap.size w _ from (by repeat' (first | with_reducible assumption | with_reducible exact Below.refl _ _ | with_reducible refine Below.setCell ?_ ?_ _ | with_reducible refine Below.alloc ?_ ?_ _ | with_reducible refine Below.drew ?_ | with_reducible refine below_drewN ?_ _ | omega | (simp; done) | (simp; omega)))) hb3; exact ⟨rfl, (by rw [HQ.out]; exact ⟨⟨_, _, rfl⟩, hB3⟩)⟩)
          exact AllReady.nil
        exact AllReady.nil
      exact AllReady.nil
    exact AllReady.nil
  refine AllReady.cons rfl (fun K hK => ?_) ?_
  · go_simp
    refine hK _ _ ?_
    clear hK K
    refine wpAny_ready (rs := [0]) (by kernel_rfl) (by simp) ?_
    refine AllReady.cons rfl (fun K hK => ?_) ?_
    · go_simp
      refine hK _ _ ?_
      clear hK K
      refine wpAny_ready (rs := [1]) (by kernel_rfl) (by simp) ?_
      refine AllReady.cons rfl (fun K hK => ?_) ?_
      · go_simp
        go_wp2_with (go_at_call 25; first | ((with_reducible refine (CA.out _ (keeps_of_below (by repeat' (first | with_reducible assumption | with_reducible exact Below.refl _ _ | with_reducible refine Below.setCell ?_ ?_ _ | with_reducible refine Below.alloc ?_ ?_ _ | with_reducible refine Below.drew ?_ | with_reducible refine below_drewN ?_ _ | omega | (simp; done) | (simp; omega))))).mono ?_); rintro e wa ⟨xa, ya, rfl, hra, hba⟩; have HRA := Lib.hid hra; have HKA := Lib.hid (keeps_of_below hba); have hBa := keeps_below (show Below w.heap.size w _ from (by repeat' (first | with_reducible assumption | with_reducible exact Below.refl _ _ | with_reducible refine Below.setCell ?_ ?_ _ | with_reducible refine Below.alloc ?_ ?_ _ | with_reducible refine Below.drew ?_ | with_reducible refine below_drewN ?_ _ | omega | (simp; done) | (simp; omega)))) hba; obtain ⟨p0, p1, p2, p3, p4, p5, p6⟩ := HXB.out.keep (keeps_of_below hBa); clear hra hba) | ((with_reducible refine (CB.out _ (keeps_of_below (by repeat' (first | with_reducible assumption | with_reducible exact Below.refl _ _ | with_reducible refine Below.setCell ?_ ?_ _ | with_reducible refine Below.alloc ?_ ?_ _ | with_reducible refine Below.drew ?_ | with_reducible refine below_drewN ?_ _ | omega | (simp; done) | (simp; omega))))).mono ?_); rintro e wb ⟨xb, yb, rfl, hrb, hbb⟩; have HRB := Lib.hid hrb; have HKB := Lib.hid (keeps_of_below hbb); have hBb := keeps_below (show Below w.heap.size w _ from (by repeat' (first | with_reducible assumption | with_reducible exact Below.refl _ _ | with_reducible refine Below.setCell ?_ ?_ _ | with_reducible refine Below.alloc ?_ ?_ _ | with_reducible refine Below.drew ?_ | with_reducible refine below_drewN ?_ _ | omega | (simp; done) | (simp; omega)))) hbb; obtain ⟨q0, q1, q2, q3, q4, q5, q6⟩ := HXA.out.keep (keeps_of_below hBb); clear hrb hbb))
        refine wpAny_ready (rs := [3]) (by kernel_rfl) (by simp) ?_
        refine AllReady.cons rfl (fun K hK => ?_) ?_
        · go_simp
          go_wp2_with (go_at_call 25; first | ((with_reducible refine (CA.out _ (keeps_of_below (by repeat' (first | with_reducible assumption | with_reducible exact Below.refl _ _ | with_reducible refine Below.setCell ?_ ?_ _ | with_reducible refine Below.alloc ?_ ?_ _ | with_reducible refine Below.drew ?_ | with_reducible refine below_drewN ?_ _ | omega | (simp; done) | (simp; omega))))).mono ?_); rintro e wa ⟨xa, ya, rfl, hra, hba⟩; have HRA := Lib.hid hra; have HKA := Lib.hid (keeps_of_below hba); have hBa := keeps_below (show Below w.heap.size w _ from (by repeat' (first | with_reducible assumption | with_reducible exact Below.refl _ _ | with_reducible refine Below.setCell ?_ ?_ _ | with_reducible refine Below.alloc ?_ ?_ _ | with_reducible refine Below.drew ?_ | with_reducible refine below_drewN ?_ _ | omega | (simp; done) | (simp; omega)))) hba; obtain ⟨p0, p1, p2, p3, p4, p5, p6⟩ := HXB.out.keep (keeps_of_below hBa); clear hra hba) | ((with_reducible refine (CB.out _ (keeps_of_below (by repeat' (first | with_reducible assumption | with_reducible exact Below.refl _ _ | with_reducible refine Below.setCell ?_ ?_ _ | with_reducible refine Below.alloc ?_ ?_ _ | with_reducible refine Below.drew ?_ | with_reducible refine below_drewN ?_ _ | omega | (simp; done) | (simp; omega))))).mono ?_); rintro e wb ⟨xb, yb, rfl, hrb, hbb⟩; have HRB := Lib.hid hrb; have HKB := Lib.hid (keeps_of_below hbb); have hBb := keeps_below (show Below w.heap.size w _ from (by repeat' (first | with_reducible assumption | with_reducible exact Below.refl _ _ | with_reducible refine Below.setCell ?_ ?_ _ | with_reducible refine Below.alloc ?_ ?_ _ | with_reducible refine Below.drew ?_ | with_reducible refine below_drewN ?_ _ | omega | (simp; done) | (simp; omega)))) hbb; obtain ⟨q0, q1, q2, q3, q4, q5, q6⟩ := HXA.out.keep (keeps_of_below hBb); clear hrb hbb))
          refine wpAny_ready (rs := [4]) (by kernel_rfl) (by simp) ?_
          refine AllReady.cons rfl (fun K hK => ?_) ?_
          · go_simp
            go_wp2_with (go_at_call 26; refine (CE.out _ _ _ _ _ (by first | exact (two_rsv HRA.out HKB.out HRB.out).1 | exact (two_rsv HRB.out HKA.out HRA.out).2)).mono ?_; rintro e w3 ⟨⟨tx, vx, rfl⟩, hb3⟩; have hB3 := keeps_below (show Below w.heap.size w _ from (by repeat' (first | with_reducible assumption | with_reducible exact Below.refl _ _ | with_reducible refine Below.setCell ?_ ?_ _ | with_reducible refine Below.alloc ?_ ?_ _ | with_reducible refine Below.drew ?_ | with_reducible refine below_drewN ?_ _ | omega | (simp; done) | (simp; omega)))) hb3; exact ⟨rfl, (by rw [HQ.out]; exact ⟨⟨_, _, rfl⟩, hB3⟩)⟩)
          exact AllReady.nil
        exact AllReady.nil
      exact AllReady.nil
    exact AllReady.nil
  exact AllReady.nil

end Go.Proofs.YtcgdnjigocknbaaDoor.Va

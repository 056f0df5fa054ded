/- The accessors of package slog's Value: where they panic. -/
import Derived.Test.YtihhgnbgejjijaaGreatDoorKTab
import Derived.Test.YtihhgnbgejjijaaGreatDoorMake
import Derived.Test.YtihhgnbgejjijaaGreatDoorOfD
namespace Go.Proofs.YtihhgnbgejjijaaGreatDoor.Va
set_option linter.unusedVariables false
set_option linter.unusedSimpArgs false
open Go Go.RowKit

/-- 'e.(I)' of a value that lacks a method of I panics, and leaves all as it was but for a new block. -/
theorem run_assert_panics {P : Program} {t asserted u e : TypeId} {want : Array (String × TypeId)} (hu : P.underlying asserted = some (.interface want)) (h : (P.info? t).map (fun i => (lacking want i.methods).isEmpty) = some false)
    (hr : P.rt.typeAssertionError = u) (he : P.underlying u = some (.pointer e)) (xT : TypeId) (v : Value) (w : World) : ∃ o, (Instr.typeAssert (.iface t v) xT asserted false).run P w = .halt (.panic (.iface u (.pointer (some ⟨w.heap.size, 0, none⟩)))) (w.alloc o) := by
  obtain ⟨i, hi, hl⟩ := Option.map_eq_some_iff.1 h
  obtain ⟨m, hm⟩ := missingMethod_some (want := want) (got := i.methods) (fun e => by rw [e] at hl; cases hl)
  subst hr
  simp [Instr.typeAssert, run_underlying hu, typeInfo, hi, hm, runtimePanic, elemOf, run_underlying he, newVar, newRow]
  exact ⟨_, rfl⟩
theorem run_assert_nil {P : Program} {asserted u e : TypeId} {want : Array (String × TypeId)} (hu : P.underlying asserted = some (.interface want))
    (hr : P.rt.typeAssertionError = u) (he : P.underlying u = some (.pointer e)) (xT : TypeId) (w : World) : ∃ o, (Instr.typeAssert .nilIface xT asserted false).run P w = .halt (.panic (.iface u (.pointer (some ⟨w.heap.size, 0, none⟩)))) (w.alloc o) := by
  subst hr
  simp [Instr.typeAssert, run_underlying hu, runtimePanic, elemOf, run_underlying he, newVar, newRow]
  exact ⟨_, rfl⟩

/-- How an accessor ends that panics. -/
def BadEnd (w : World) (e : Ending) (w' : World) : Prop := (∃ t x, e = .panicked [{ v := .iface t x, recovered := false }]) ∧ Below w.heap.size w w'
/-- How an accessor ends that doesn't. -/
def FineEnd (w : World) (e : Ending) (w' : World) : Prop := (∃ v, e = .returned v) ∧ Below w.heap.size w w'

set_option maxRecDepth 100000 in
set_option maxHeartbeats 1000000 in
theorem bad_Bool {P : Nat → Prop} (d : SVal) (w : World) (x y : Value) (hk : ¬ d.kind = 1) (h0 : 0 ≤ d.kind) (h9 : d.kind ≤ 9) (hT : KTab w) (h : RSV P w d x y) : Calls Tryz.prog 146 #[.agg #[x, y]] w (BadEnd w) := by
  obtain ⟨i, rfl, hy⟩ := rsv_shape h
  have cK := fun wx (hx : Keeps w wx) => kind_any d wx _ _ (h.keep hx)
  have cS := fun wx (hx : Keeps w wx) => kindStr_any d.kind h0 h9 wx (hT.keep hx)
  have cC := fun wx (hx : Keeps w wx) => kindStr_any 1 (by omega) (by omega) wx (hT.keep hx)
  generalize d.kind = k at cK cS hk
  obtain ⟨Q, hQ⟩ : ∃ Q, Q = BadEnd w := ⟨_, rfl⟩
  rw [← hQ]
  have HQ := Lib.hid hQ
  have CK := Lib.hid cK
  have CS := Lib.hid cS
  have C2 := Lib.hid cC
  clear cK cS cC hQ h hT h0 h9
  have hk' : (k != 1) = true := by simp [hk]
  rcases hy with rfl | ⟨t, u, rfl⟩
  all_goals
    go_enter Tryz.func146, Tryz.ntmps146
    go_wp2_with (first
      | (go_at_call 133; (with_reducible refine (CK.out _ (keeps_of_below (by repeat' (first | with_reducible assumption | with_reducible exact Below.refl _ _ | with_reducible refine Below.setCell ?_ ?_ _ | with_reducible refine Below.alloc ?_ ?_ _ | with_reducible refine Below.drew ?_ | with_reducible refine below_drewN ?_ _ | omega | (simp; done) | (simp; omega))))).mono ?_); rintro e w1 ⟨rfl, hb1⟩; have hB1 := keeps_below (show Below w.heap.size w _ from (by repeat' (first | with_reducible assumption | with_reducible exact Below.refl _ _ | with_reducible refine Below.setCell ?_ ?_ _ | with_reducible refine Below.alloc ?_ ?_ _ | with_reducible refine Below.drew ?_ | with_reducible refine below_drewN ?_ _ | omega | (simp; done) | (simp; omega)))) hb1)
      | (go_at_call 140; (with_reducible refine (CS.out _ (keeps_of_below hB1)).mono ?_); rintro e w2 ⟨s1, rfl, hs1, rfl⟩; have n1 : ¬ 9223372036854775807 < 14 + s1.size := (by omega); have n2 : ¬ 9223372036854775807 < 14 + s1.size + 6 := (by omega))
      | (go_at_call 140; (with_reducible refine (C2.out _ (keeps_of_below hB1)).mono ?_); rintro e w3 ⟨s2, rfl, hs2, rfl⟩; have n3 : ¬ 9223372036854775807 < 14 + s1.size + 6 + s2.size := (by omega)))
    exact ⟨rfl, by rw [HQ.out]; exact ⟨⟨_, _, rfl⟩, hB1⟩⟩

set_option maxRecDepth 100000 in
set_option maxHeartbeats 1000000 in
theorem bad_Duration {P : Nat → Prop} (d : SVal) (w : World) (x y : Value) (hk : ¬ d.kind = 2) (h0 : 0 ≤ d.kind) (h9 : d.kind ≤ 9) (hT : KTab w) (h : RSV P w d x y) : Calls Tryz.prog 147 #[.agg #[x, y]] w (BadEnd w) := by
  obtain ⟨i, rfl, hy⟩ := rsv_shape h
  have cK := fun wx (hx : Keeps w wx) => kind_any d wx _ _ (h.keep hx)
  have cS := fun wx (hx : Keeps w wx) => kindStr_any d.kind h0 h9 wx (hT.keep hx)
  have cC := fun wx (hx : Keeps w wx) => kindStr_any 2 (by omega) (by omega) wx (hT.keep hx)
  generalize d.kind = k at cK cS hk
  obtain ⟨Q, hQ⟩ : ∃ Q, Q = BadEnd w := ⟨_, rfl⟩
  rw [← hQ]
  have HQ := Lib.hid hQ
  have CK := Lib.hid cK
  have CS := Lib.hid cS
  have C2 := Lib.hid cC
  clear cK cS cC hQ h hT h0 h9
  have hk' : (k != 2) = true := by simp [hk]
  rcases hy with rfl | ⟨t, u, rfl⟩
  all_goals
    go_enter Tryz.func147, Tryz.ntmps147
    go_wp2_with (first
      | (go_at_call 133; (with_reducible refine (CK.out _ (keeps_of_below (by repeat' (first | with_reducible assumption | with_reducible exact Below.refl _ _ | with_reducible refine Below.setCell ?_ ?_ _ | with_reducible refine Below.alloc ?_ ?_ _ | with_reducible refine Below.drew ?_ | with_reducible refine below_drewN ?_ _ | omega | (simp; done) | (simp; omega))))).mono ?_); rintro e w1 ⟨rfl, hb1⟩; have hB1 := keeps_below (show Below w.heap.size w _ from (by repeat' (first | with_reducible assumption | with_reducible exact Below.refl _ _ | with_reducible refine Below.setCell ?_ ?_ _ | with_reducible refine Below.alloc ?_ ?_ _ | with_reducible refine Below.drew ?_ | with_reducible refine below_drewN ?_ _ | omega | (simp; done) | (simp; omega)))) hb1)
      | (go_at_call 140; (with_reducible refine (CS.out _ (keeps_of_below hB1)).mono ?_); rintro e w2 ⟨s1, rfl, hs1, rfl⟩; have n1 : ¬ 9223372036854775807 < 14 + s1.size := (by omega); have n2 : ¬ 9223372036854775807 < 14 + s1.size + 6 := (by omega))
      | (go_at_call 140; (with_reducible refine (C2.out _ (keeps_of_below hB1)).mono ?_); rintro e w3 ⟨s2, rfl, hs2, rfl⟩; have n3 : ¬ 9223372036854775807 < 14 + s1.size + 6 + s2.size := (by omega)))
    exact ⟨rfl, by rw [HQ.out]; exact ⟨⟨_, _, rfl⟩, hB1⟩⟩

set_option maxRecDepth 100000 in
set_option maxHeartbeats 1000000 in
theorem bad_Float64 {P : Nat → Prop} (d : SVal) (w : World) (x y : Value) (hk : ¬ d.kind = 3) (h0 : 0 ≤ d.kind) (h9 : d.kind ≤ 9) (hT : KTab w) (h : RSV P w d x y) : Calls Tryz.prog 149 #[.agg #[x, y]] w (BadEnd w) := by
  obtain ⟨i, rfl, hy⟩ := rsv_shape h
  have cK := fun wx (hx : Keeps w wx) => kind_any d wx _ _ (h.keep hx)
  have cS := fun wx (hx : Keeps w wx) => kindStr_any d.kind h0 h9 wx (hT.keep hx)
  have cC := fun wx (hx : Keeps w wx) => kindStr_any 3 (by omega) (by omega) wx (hT.keep hx)
  generalize d.kind = k at cK cS hk
  obtain ⟨Q, hQ⟩ : ∃ Q, Q = BadEnd w := ⟨_, rfl⟩
  rw [← hQ]
  have HQ := Lib.hid hQ
  have CK := Lib.hid cK
  have CS := Lib.hid cS
  have C2 := Lib.hid cC
  clear cK cS cC hQ h hT h0 h9
  have hk' : (k != 3) = true := by simp [hk]
  rcases hy with rfl | ⟨t, u, rfl⟩
  all_goals
    go_enter Tryz.func149, Tryz.ntmps149
    go_wp2_with (first
      | (go_at_call 133; (with_reducible refine (CK.out _ (keeps_of_below (by repeat' (first | with_reducible assumption | with_reducible exact Below.refl _ _ | with_reducible refine Below.setCell ?_ ?_ _ | with_reducible refine Below.alloc ?_ ?_ _ | with_reducible refine Below.drew ?_ | with_reducible refine below_drewN ?_ _ | omega | (simp; done) | (simp; omega))))).mono ?_); rintro e w1 ⟨rfl, hb1⟩; have hB1 := keeps_below (show Below w.heap.size w _ from (by repeat' (first | with_reducible assumption | with_reducible exact Below.refl _ _ | with_reducible refine Below.setCell ?_ ?_ _ | with_reducible refine Below.alloc ?_ ?_ _ | with_reducible refine Below.drew ?_ | with_reducible refine below_drewN ?_ _ | omega | (simp; done) | (simp; omega)))) hb1)
      | (go_at_call 140; (with_reducible refine (CS.out _ (keeps_of_below hB1)).mono ?_); rintro e w2 ⟨s1, rfl, hs1, rfl⟩; have n1 : ¬ 9223372036854775807 < 14 + s1.size := (by omega); have n2 : ¬ 9223372036854775807 < 14 + s1.size + 6 := (by omega))
      | (go_at_call 140; (with_reducible refine (C2.out _ (keeps_of_below hB1)).mono ?_); rintro e w3 ⟨s2, rfl, hs2, rfl⟩; have n3 : ¬ 9223372036854775807 < 14 + s1.size + 6 + s2.size := (by omega)))
    exact ⟨rfl, by rw [HQ.out]; exact ⟨⟨_, _, rfl⟩, hB1⟩⟩

set_option maxRecDepth 100000 in
set_option maxHeartbeats 1000000 in
theorem bad_Int64 {P : Nat → Prop} (d : SVal) (w : World) (x y : Value) (hk : ¬ d.kind = 4) (h0 : 0 ≤ d.kind) (h9 : d.kind ≤ 9) (hT : KTab w) (h : RSV P w d x y) : Calls Tryz.prog 150 #[.agg #[x, y]] w (BadEnd w) := by
  obtain ⟨i, rfl, hy⟩ := rsv_shape h
  have cK := fun wx (hx : Keeps w wx) => kind_any d wx _ _ (h.keep hx)
  have cS := fun wx (hx : Keeps w wx) => kindStr_any d.kind h0 h9 wx (hT.keep hx)
  have cC := fun wx (hx : Keeps w wx) => kindStr_any 4 (by omega) (by omega) wx (hT.keep hx)
  generalize d.kind = k at cK cS hk
  obtain ⟨Q, hQ⟩ : ∃ Q, Q = BadEnd w := ⟨_, rfl⟩
  rw [← hQ]
  have HQ := Lib.hid hQ
  have CK := Lib.hid cK
  have CS := Lib.hid cS
  have C2 := Lib.hid cC
  clear cK cS cC hQ h hT h0 h9
  have hk' : (k != 4) = true := by simp [hk]
  rcases hy with rfl | ⟨t, u, rfl⟩
  all_goals
    go_enter Tryz.func150, Tryz.ntmps150
    go_wp2_with (first
      | (go_at_call 133; (with_reducible refine (CK.out _ (keeps_of_below (by repeat' (first | with_reducible assumption | with_reducible exact Below.refl _ _ | with_reducible refine Below.setCell ?_ ?_ _ | with_reducible refine Below.alloc ?_ ?_ _ | with_reducible refine Below.drew ?_ | with_reducible refine below_drewN ?_ _ | omega | (simp; done) | (simp; omega))))).mono ?_); rintro e w1 ⟨rfl, hb1⟩; have hB1 := keeps_below (show Below w.heap.size w _ from (by repeat' (first | with_reducible assumption | with_reducible exact Below.refl _ _ | with_reducible refine Below.setCell ?_ ?_ _ | with_reducible refine Below.alloc ?_ ?_ _ | with_reducible refine Below.drew ?_ | with_reducible refine below_drewN ?_ _ | omega | (simp; done) | (simp; omega)))) hb1)
      | (go_at_call 140; (with_reducible refine (CS.out _ (keeps_of_below hB1)).mono ?_); rintro e w2 ⟨s1, rfl, hs1, rfl⟩; have n1 : ¬ 9223372036854775807 < 14 + s1.size := (by omega); have n2 : ¬ 9223372036854775807 < 14 + s1.size + 6 := (by omega))
      | (go_at_call 140; (with_reducible refine (C2.out _ (keeps_of_below hB1)).mono ?_); rintro e w3 ⟨s2, rfl, hs2, rfl⟩; have n3 : ¬ 9223372036854775807 < 14 + s1.size + 6 + s2.size := (by omega)))
    exact ⟨rfl, by rw [HQ.out]; exact ⟨⟨_, _, rfl⟩, hB1⟩⟩

set_option maxRecDepth 100000 in
set_option maxHeartbeats 1000000 in
theorem bad_Time {P : Nat → Prop} (d : SVal) (w : World) (x y : Value) (hk : ¬ d.kind = 6) (h0 : 0 ≤ d.kind) (h9 : d.kind ≤ 9) (hT : KTab w) (h : RSV P w d x y) : Calls Tryz.prog 151 #[.agg #[x, y]] w (BadEnd w) := by
  obtain ⟨i, rfl, hy⟩ := rsv_shape h
  have cK := fun wx (hx : Keeps w wx) => kind_any d wx _ _ (h.keep hx)
  have cS := fun wx (hx : Keeps w wx) => kindStr_any d.kind h0 h9 wx (hT.keep hx)
  have cC := fun wx (hx : Keeps w wx) => kindStr_any 6 (by omega) (by omega) wx (hT.keep hx)
  generalize d.kind = k at cK cS hk
  obtain ⟨Q, hQ⟩ : ∃ Q, Q = BadEnd w := ⟨_, rfl⟩
  rw [← hQ]
  have HQ := Lib.hid hQ
  have CK := Lib.hid cK
  have CS := Lib.hid cS
  have C2 := Lib.hid cC
  clear cK cS cC hQ h hT h0 h9
  have hk' : (k != 6) = true := by simp [hk]
  rcases hy with rfl | ⟨t, u, rfl⟩
  all_goals
    go_enter Tryz.func151, Tryz.ntmps151
    go_wp2_with (first
      | (go_at_call 133; (with_reducible refine (CK.out _ (keeps_of_below (by repeat' (first | with_reducible assumption | with_reducible exact Below.refl _ _ | with_reducible refine Below.setCell ?_ ?_ _ | with_reducible refine Below.alloc ?_ ?_ _ | with_reducible refine Below.drew ?_ | with_reducible refine below_drewN ?_ _ | omega | (simp; done) | (simp; omega))))).mono ?_); rintro e w1 ⟨rfl, hb1⟩; have hB1 := keeps_below (show Below w.heap.size w _ from (by repeat' (first | with_reducible assumption | with_reducible exact Below.refl _ _ | with_reducible refine Below.setCell ?_ ?_ _ | with_reducible refine Below.alloc ?_ ?_ _ | with_reducible refine Below.drew ?_ | with_reducible refine below_drewN ?_ _ | omega | (simp; done) | (simp; omega)))) hb1)
      | (go_at_call 140; (with_reducible refine (CS.out _ (keeps_of_below hB1)).mono ?_); rintro e w2 ⟨s1, rfl, hs1, rfl⟩; have n1 : ¬ 9223372036854775807 < 14 + s1.size := (by omega); have n2 : ¬ 9223372036854775807 < 14 + s1.size + 6 := (by omega))
      | (go_at_call 140; (with_reducible refine (C2.out _ (keeps_of_below hB1)).mono ?_); rintro e w3 ⟨s2, rfl, hs2, rfl⟩; have n3 : ¬ 9223372036854775807 < 14 + s1.size + 6 + s2.size := (by omega)))
    exact ⟨rfl, by rw [HQ.out]; exact ⟨⟨_, _, rfl⟩, hB1⟩⟩

set_option maxRecDepth 100000 in
set_option maxHeartbeats 1000000 in
theorem bad_Uint64 {P : Nat → Prop} (d : SVal) (w : World) (x y : Value) (hk : ¬ d.kind = 7) (h0 : 0 ≤ d.kind) (h9 : d.kind ≤ 9) (hT : KTab w) (h : RSV P w d x y) : Calls Tryz.prog 152 #[.agg #[x, y]] w (BadEnd w) := by
  obtain ⟨i, rfl, hy⟩ := rsv_shape h
  have cK := fun wx (hx : Keeps w wx) => kind_any d wx _ _ (h.keep hx)
  have cS := fun wx (hx : Keeps w wx) => kindStr_any d.kind h0 h9 wx (hT.keep hx)
  have cC := fun wx (hx : Keeps w wx) => kindStr_any 7 (by omega) (by omega) wx (hT.keep hx)
  generalize d.kind = k at cK cS hk
  obtain ⟨Q, hQ⟩ : ∃ Q, Q = BadEnd w := ⟨_, rfl⟩
  rw [← hQ]
  have HQ := Lib.hid hQ
  have CK := Lib.hid cK
  have CS := Lib.hid cS
  have C2 := Lib.hid cC
  clear cK cS cC hQ h hT h0 h9
  have hk' : (k != 7) = true := by simp [hk]
  rcases hy with rfl | ⟨t, u, rfl⟩
  all_goals
    go_enter Tryz.func152, Tryz.ntmps152
    go_wp2_with (first
      | (go_at_call 133; (with_reducible refine (CK.out _ (keeps_of_below (by repeat' (first | with_reducible assumption | with_reducible exact Below.refl _ _ | with_reducible refine Below.setCell ?_ ?_ _ | with_reducible refine Below.alloc ?_ ?_ _ | with_reducible refine Below.drew ?_ | with_reducible refine below_drewN ?_ _ | omega | (simp; done) | (simp; omega))))).mono ?_); rintro e w1 ⟨rfl, hb1⟩; have hB1 := keeps_below (show Below w.heap.size w _ from (by repeat' (first | with_reducible assumption | with_reducible exact Below.refl _ _ | with_reducible refine Below.setCell ?_ ?_ _ | with_reducible refine Below.alloc ?_ ?_ _ | with_reducible refine Below.drew ?_ | with_reducible refine below_drewN ?_ _ | omega | (simp; done) | (simp; omega)))) hb1)
      | (go_at_call 140; (with_reducible refine (CS.out _ (keeps_of_below hB1)).mono ?_); rintro e w2 ⟨s1, rfl, hs1, rfl⟩; have n1 : ¬ 9223372036854775807 < 14 + s1.size := (by omega); have n2 : ¬ 9223372036854775807 < 14 + s1.size + 6 := (by omega))
      | (go_at_call 140; (with_reducible refine (C2.out _ (keeps_of_below hB1)).mono ?_); rintro e w3 ⟨s2, rfl, hs2, rfl⟩; have n3 : ¬ 9223372036854775807 < 14 + s1.size + 6 + s2.size := (by omega)))
    exact ⟨rfl, by rw [HQ.out]; exact ⟨⟨_, _, rfl⟩, hB1⟩⟩

theorem not_group {P : Nat → Prop} {w : World} {d : SVal} {x y : Value} (h : RSV P w d x y) (hk : ¬ d.kind = 8) : y = .nilIface ∨ ∃ t u, y = .iface t u ∧ t ≠ 245 := by
  cases d with
  | any g =>
    unfold RSV at h
    cases g with
    | nil => exact .inl h.2
    | bytes s => obtain ⟨_, A, len, cap, e, _⟩ := h; exact .inr ⟨_, _, e, by decide⟩
    | source f s n => obtain ⟨_, b, e, _⟩ := h; exact .inr ⟨_, _, e, by decide⟩
    | made s => exact h.2.elim
    | _ => exact .inr ⟨_, _, h.2, by decide⟩
  | num k n => unfold RSV at h; exact .inr ⟨_, _, h.2.1, by decide⟩
  | str s => unfold RSV at h; exact .inr ⟨_, _, h.2, by decide⟩
  | time t => unfold RSV at h; exact .inr ⟨_, _, h.2, by decide⟩
  | group l => exact absurd rfl hk
  | valuer n v c => unfold RSV at h; obtain ⟨vx, vy, _, e, _⟩ := h; exact .inr ⟨_, _, e, by decide⟩
  | throws s c => unfold RSV at h; exact .inr ⟨_, _, h.2, by decide⟩

/-- What an assertion to LogValuer comes to that fails. -/
def AssertBad (y : Value) : Prop := ∀ w : World, ∃ u p o, (Instr.typeAssert y 20 209 false).run Tryz.prog w = .halt (.panic (.iface u (.pointer (some p)))) (w.alloc o)
theorem assert_bad_nil : AssertBad .nilIface := fun w => by
  obtain ⟨o, h⟩ := run_assert_nil (P := Tryz.prog) Tryz.underlying209 rfl Tryz.underlying15 20 w
  exact ⟨_, _, o, h⟩
theorem assert_bad_of {t : TypeId} {want : Array (String × TypeId)} (hu : Tryz.prog.underlying 209 = some (.interface want)) (h : (Tryz.prog.info? t).map (fun i => (lacking want i.methods).isEmpty) = some false) (v : Value) : AssertBad (.iface t v) := fun w => by
  obtain ⟨o, h⟩ := run_assert_panics (P := Tryz.prog) hu h rfl Tryz.underlying15 20 v w
  exact ⟨_, _, o, h⟩
theorem assert_bad {P : Nat → Prop} {w : World} {d : SVal} {x y : Value} (h : RSV P w d x y) (hk : ¬ d.kind = 9) : AssertBad y := by
  cases d with
  | any g =>
    unfold RSV at h
    cases g with
    | nil => rw [h.2]; exact assert_bad_nil
    | bytes s => obtain ⟨_, A, len, cap, rfl, _⟩ := h; exact assert_bad_of Tryz.underlying209 (by kernel_rfl) _
    | source f s n => obtain ⟨_, b, rfl, _⟩ := h; exact assert_bad_of Tryz.underlying209 (by kernel_rfl) _
    | made s => exact h.2.elim
    | err s => rw [h.2]; exact assert_bad_of Tryz.underlying209 (by kernel_rfl) _
    | stringer s => rw [h.2]; exact assert_bad_of Tryz.underlying209 (by kernel_rfl) _
    | text s => rw [h.2]; exact assert_bad_of Tryz.underlying209 (by kernel_rfl) _
    | fails s => rw [h.2]; exact assert_bad_of Tryz.underlying209 (by kernel_rfl) _
    | number n => rw [h.2]; exact assert_bad_of Tryz.underlying209 (by kernel_rfl) _
    | level n => rw [h.2]; exact assert_bad_of Tryz.underlying209 (by kernel_rfl) _
    | kind n => rw [h.2]; exact assert_bad_of Tryz.underlying209 (by kernel_rfl) _
    | appender s t => rw [h.2]; exact assert_bad_of Tryz.underlying209 (by kernel_rfl) _
    | lacks s => rw [h.2]; exact assert_bad_of Tryz.underlying209 (by kernel_rfl) _
    | panics s => rw [h.2]; exact assert_bad_of Tryz.underlying209 (by kernel_rfl) _
    | pointer => rw [h.2]; exact assert_bad_of Tryz.underlying209 (by kernel_rfl) _
    | nosource => rw [h.2]; exact assert_bad_of Tryz.underlying209 (by kernel_rfl) _
    | both s t => rw [h.2]; exact assert_bad_of Tryz.underlying209 (by kernel_rfl) _
  | num k n => unfold RSV at h; rw [h.2.1]; exact assert_bad_of Tryz.underlying209 (by kernel_rfl) _
  | str s => unfold RSV at h; rw [h.2]; exact assert_bad_of Tryz.underlying209 (by kernel_rfl) _
  | time t => unfold RSV at h; rw [h.2]; exact assert_bad_of Tryz.underlying209 (by kernel_rfl) _
  | group l => unfold RSV at h; obtain ⟨A, len, cap, _, rfl, _⟩ := h; exact assert_bad_of Tryz.underlying209 (by kernel_rfl) _
  | valuer n v c => exact absurd rfl hk
  | throws s c => exact absurd rfl hk

theorem bad_Group {P : Nat → Prop} (d : SVal) (w : World) (x y : Value) (hk : ¬ d.kind = 8) (h : RSV P w d x y) : Calls Tryz.prog 153 #[.agg #[x, y]] w (BadEnd w) := by
  obtain ⟨i, rfl, _⟩ := rsv_shape h
  have hy := not_group h hk
  clear h hk
  obtain ⟨Q, hQ⟩ : ∃ Q, Q = BadEnd w := ⟨_, rfl⟩
  rw [← hQ]
  have HQ := Lib.hid hQ
  clear hQ
  rcases hy with rfl | ⟨t, u, rfl, ht⟩
  all_goals
    go_enter Tryz.func153, Tryz.ntmps153
    go_wp2
    exact ⟨rfl, by rw [HQ.out]; exact ⟨⟨_, _, rfl⟩, (by repeat' (first | with_reducible assumption | with_reducible exact Below.refl _ _ | with_reducible refine Below.setCell ?_ ?_ _ | with_reducible refine Below.alloc ?_ ?_ _ | with_reducible refine Below.drew ?_ | with_reducible refine below_drewN ?_ _ | omega | (simp; done) | (simp; omega)))⟩⟩

theorem bad_LogValuer {P : Nat → Prop} (d : SVal) (w : World) (x y : Value) (hk : ¬ d.kind = 9) (h : RSV P w d x y) : Calls Tryz.prog 144 #[.agg #[x, y]] w (BadEnd w) := by
  obtain ⟨i, rfl, hy⟩ := rsv_shape h
  have hb := assert_bad h hk
  clear h hk
  obtain ⟨u1, p1, o1, hr⟩ := hb (w.alloc (.cells #[.int .u64 i, y] 109))
  clear hb
  obtain ⟨Q, hQ⟩ : ∃ Q, Q = BadEnd w := ⟨_, rfl⟩
  rw [← hQ]
  have HQ := Lib.hid hQ
  clear hQ
  rcases hy with rfl | ⟨t, u, rfl⟩
  all_goals
    go_enter Tryz.func144, Tryz.ntmps144
    go_wp2
    exact ⟨rfl, by rw [HQ.out]; exact ⟨⟨_, _, rfl⟩, (by repeat' (first | with_reducible assumption | with_reducible exact Below.refl _ _ | with_reducible refine Below.setCell ?_ ?_ _ | with_reducible refine Below.alloc ?_ ?_ _ | with_reducible refine Below.drew ?_ | with_reducible refine below_drewN ?_ _ | omega | (simp; done) | (simp; omega)))⟩⟩


end Go.Proofs.YtihhgnbgejjijaaGreatDoor.Va

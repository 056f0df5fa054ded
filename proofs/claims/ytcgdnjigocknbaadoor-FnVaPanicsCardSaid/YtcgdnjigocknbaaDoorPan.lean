/- impl.Panics, and the statement FnVaPanics: the walks. -/
import Derived.Test.YtcgdnjigocknbaaDoorAccF
import Derived.Test.YtcgdnjigocknbaaDoorBox
import Derived.Test.YtcgdnjigocknbaaDoorGood
import Derived.Test.YtcgdnjigocknbaaDoorFits
namespace Go.Proofs.YtcgdnjigocknbaaDoor.Va
set_option linter.unusedVariables false
set_option linter.unusedSimpArgs false
open Go Go.RowKit

theorem shape_of {P : Nat → Prop} {w : World} {d : SVal} {x y : Value} (h : RSV P w d x y) : ∃ i, x = .int .u64 i ∧ (y = .nilIface ∨ ∃ t u, y = .iface t u) := rsv_shape h

set_option maxRecDepth 100000 in
set_option maxHeartbeats 400000 in
theorem pan_fine_0 (w : World) (pa pv : Nat) (i : Int) (y : Value) (hy : y = .nilIface ∨ ∃ t u, y = .iface t u) (h0 : w.cell? ⟨pa, 0, none⟩ = some (.int .i64 0)) (h1 : w.cell? ⟨pv, 0, none⟩ = some (.int .u64 i)) (h2 : w.cell? ⟨pv, 1, none⟩ = some y)
    (cA : ∀ wx, Keeps w wx → Calls Tryd.prog 30 #[.agg #[.int .u64 i, y]] wx (FineEnd wx)) :
    Calls Tryd.prog 29 #[.pointer (some ⟨pa, 0, none⟩), .pointer (some ⟨pv, 0, none⟩)] w fun e w' => e = .returned (.tuple #[]) ∧ Below w.heap.size w w' := by
  obtain ⟨Q, hQ⟩ : ∃ Q : Ending → World → Prop, Q = fun e w' => e = .returned (.tuple #[]) ∧ Below w.heap.size w w' := ⟨_, rfl⟩
  rw [← hQ]
  have HQ := Lib.hid hQ
  have CA := Lib.hid cA
  clear cA hQ
  rcases hy with rfl | ⟨t, u, rfl⟩
  all_goals
    go_enter Tryd.func29, Tryd.ntmps29
    go_wp2_with (go_at_call 30; (refine (CA.out _ (Keeps.refl _)).mono ?_); rintro e w1 ⟨⟨v, rfl⟩, hb1⟩)
    go_end0
    rw [HQ.out]
    exact ⟨rfl, hb1⟩

set_option maxRecDepth 100000 in
set_option maxHeartbeats 400000 in
theorem pan_bad_0 (w : World) (pa pv : Nat) (i : Int) (y : Value) (hy : y = .nilIface ∨ ∃ t u, y = .iface t u) (h0 : w.cell? ⟨pa, 0, none⟩ = some (.int .i64 0)) (h1 : w.cell? ⟨pv, 0, none⟩ = some (.int .u64 i)) (h2 : w.cell? ⟨pv, 1, none⟩ = some y)
    (cA : ∀ wx, Keeps w wx → Calls Tryd.prog 30 #[.agg #[.int .u64 i, y]] wx (BadEnd wx)) :
    Calls Tryd.prog 29 #[.pointer (some ⟨pa, 0, none⟩), .pointer (some ⟨pv, 0, none⟩)] w fun e w' => (∃ t x, e = .panicked [{ v := .iface t x, recovered := false }]) ∧ Below w.heap.size w w' := by
  obtain ⟨Q, hQ⟩ : ∃ Q : Ending → World → Prop, Q = fun e w' => (∃ t x, e = .panicked [{ v := .iface t x, recovered := false }]) ∧ Below w.heap.size w w' := ⟨_, rfl⟩
  rw [← hQ]
  have HQ := Lib.hid hQ
  have CA := Lib.hid cA
  clear cA hQ
  rcases hy with rfl | ⟨t, u, rfl⟩
  all_goals
    go_enter Tryd.func29, Tryd.ntmps29
    go_wp2_with (go_at_call 30; (refine (CA.out _ (Keeps.refl _)).mono ?_); rintro e w1 ⟨⟨t, x, rfl⟩, hb1⟩)
    exact ⟨rfl, by rw [HQ.out]; exact ⟨⟨_, _, rfl⟩, hb1⟩⟩

set_option maxRecDepth 100000 in
set_option maxHeartbeats 400000 in
theorem pan_fine_1 (w : World) (pa pv : Nat) (i : Int) (y : Value) (hy : y = .nilIface ∨ ∃ t u, y = .iface t u) (h0 : w.cell? ⟨pa, 0, none⟩ = some (.int .i64 1)) (h1 : w.cell? ⟨pv, 0, none⟩ = some (.int .u64 i)) (h2 : w.cell? ⟨pv, 1, none⟩ = some y)
    (cA : ∀ wx, Keeps w wx → Calls Tryd.prog 31 #[.agg #[.int .u64 i, y]] wx (FineEnd wx)) :
    Calls Tryd.prog 29 #[.pointer (some ⟨pa, 0, none⟩), .pointer (some ⟨pv, 0, none⟩)] w fun e w' => e = .returned (.tuple #[]) ∧ Below w.heap.size w w' := by
  obtain ⟨Q, hQ⟩ : ∃ Q : Ending → World → Prop, Q = fun e w' => e = .returned (.tuple #[]) ∧ Below w.heap.size w w' := ⟨_, rfl⟩
  rw [← hQ]
  have HQ := Lib.hid hQ
  have CA := Lib.hid cA
  clear cA hQ
  rcases hy with rfl | ⟨t, u, rfl⟩
  all_goals
    go_enter Tryd.func29, Tryd.ntmps29
    go_wp2_with (go_at_call 31; (refine (CA.out _ (Keeps.refl _)).mono ?_); rintro e w1 ⟨⟨v, rfl⟩, hb1⟩)
    go_end0
    rw [HQ.out]
    exact ⟨rfl, hb1⟩

set_option maxRecDepth 100000 in
set_option maxHeartbeats 400000 in
theorem pan_bad_1 (w : World) (pa pv : Nat) (i : Int) (y : Value) (hy : y = .nilIface ∨ ∃ t u, y = .iface t u) (h0 : w.cell? ⟨pa, 0, none⟩ = some (.int .i64 1)) (h1 : w.cell? ⟨pv, 0, none⟩ = some (.int .u64 i)) (h2 : w.cell? ⟨pv, 1, none⟩ = some y)
    (cA : ∀ wx, Keeps w wx → Calls Tryd.prog 31 #[.agg #[.int .u64 i, y]] wx (BadEnd wx)) :
    Calls Tryd.prog 29 #[.pointer (some ⟨pa, 0, none⟩), .pointer (some ⟨pv, 0, none⟩)] w fun e w' => (∃ t x, e = .panicked [{ v := .iface t x, recovered := false }]) ∧ Below w.heap.size w w' := by
  obtain ⟨Q, hQ⟩ : ∃ Q : Ending → World → Prop, Q = fun e w' => (∃ t x, e = .panicked [{ v := .iface t x, recovered := false }]) ∧ Below w.heap.size w w' := ⟨_, rfl⟩
  rw [← hQ]
  have HQ := Lib.hid hQ
  have CA := Lib.hid cA
  clear cA hQ
  rcases hy with rfl | ⟨t, u, rfl⟩
  all_goals
    go_enter Tryd.func29, Tryd.ntmps29
    go_wp2_with (go_at_call 31; (refine (CA.out _ (Keeps.refl _)).mono ?_); rintro e w1 ⟨⟨t, x, rfl⟩, hb1⟩)
    exact ⟨rfl, by rw [HQ.out]; exact ⟨⟨_, _, rfl⟩, hb1⟩⟩

set_option maxRecDepth 100000 in
set_option maxHeartbeats 400000 in
theorem pan_fine_2 (w : World) (pa pv : Nat) (i : Int) (y : Value) (hy : y = .nilIface ∨ ∃ t u, y = .iface t u) (h0 : w.cell? ⟨pa, 0, none⟩ = some (.int .i64 2)) (h1 : w.cell? ⟨pv, 0, none⟩ = some (.int .u64 i)) (h2 : w.cell? ⟨pv, 1, none⟩ = some y)
    (cA : ∀ wx, Keeps w wx → Calls Tryd.prog 32 #[.agg #[.int .u64 i, y]] wx (FineEnd wx)) :
    Calls Tryd.prog 29 #[.pointer (some ⟨pa, 0, none⟩), .pointer (some ⟨pv, 0, none⟩)] w fun e w' => e = .returned (.tuple #[]) ∧ Below w.heap.size w w' := by
  obtain ⟨Q, hQ⟩ : ∃ Q : Ending → World → Prop, Q = fun e w' => e = .returned (.tuple #[]) ∧ Below w.heap.size w w' := ⟨_, rfl⟩
  rw [← hQ]
  have HQ := Lib.hid hQ
  have CA := Lib.hid cA
  clear cA hQ
  rcases hy with rfl | ⟨t, u, rfl⟩
  all_goals
    go_enter Tryd.func29, Tryd.ntmps29
    go_wp2_with (go_at_call 32; (refine (CA.out _ (Keeps.refl _)).mono ?_); rintro e w1 ⟨⟨v, rfl⟩, hb1⟩)
    go_end0
    rw [HQ.out]
    exact ⟨rfl, hb1⟩

set_option maxRecDepth 100000 in
set_option maxHeartbeats 400000 in
theorem pan_bad_2 (w : World) (pa pv : Nat) (i : Int) (y : Value) (hy : y = .nilIface ∨ ∃ t u, y = .iface t u) (h0 : w.cell? ⟨pa, 0, none⟩ = some (.int .i64 2)) (h1 : w.cell? ⟨pv, 0, none⟩ = some (.int .u64 i)) (h2 : w.cell? ⟨pv, 1, none⟩ = some y)
    (cA : ∀ wx, Keeps w wx → Calls Tryd.prog 32 #[.agg #[.int .u64 i, y]] wx (BadEnd wx)) :
    Calls Tryd.prog 29 #[.pointer (some ⟨pa, 0, none⟩), .pointer (some ⟨pv, 0, none⟩)] w fun e w' => (∃ t x, e = .panicked [{ v := .iface t x, recovered := false }]) ∧ Below w.heap.size w w' := by
  obtain ⟨Q, hQ⟩ : ∃ Q : Ending → World → Prop, Q = fun e w' => (∃ t x, e = .panicked [{ v := .iface t x, recovered := false }]) ∧ Below w.heap.size w w' := ⟨_, rfl⟩
  rw [← hQ]
  have HQ := Lib.hid hQ
  have CA := Lib.hid cA
  clear cA hQ
  rcases hy with rfl | ⟨t, u, rfl⟩
  all_goals
    go_enter Tryd.func29, Tryd.ntmps29
    go_wp2_with (go_at_call 32; (refine (CA.out _ (Keeps.refl _)).mono ?_); rintro e w1 ⟨⟨t, x, rfl⟩, hb1⟩)
    exact ⟨rfl, by rw [HQ.out]; exact ⟨⟨_, _, rfl⟩, hb1⟩⟩

set_option maxRecDepth 100000 in
set_option maxHeartbeats 400000 in
theorem pan_fine_3 (w : World) (pa pv : Nat) (i : Int) (y : Value) (hy : y = .nilIface ∨ ∃ t u, y = .iface t u) (h0 : w.cell? ⟨pa, 0, none⟩ = some (.int .i64 3)) (h1 : w.cell? ⟨pv, 0, none⟩ = some (.int .u64 i)) (h2 : w.cell? ⟨pv, 1, none⟩ = some y)
    (cA : ∀ wx, Keeps w wx → Calls Tryd.prog 33 #[.agg #[.int .u64 i, y]] wx (FineEnd wx)) :
    Calls Tryd.prog 29 #[.pointer (some ⟨pa, 0, none⟩), .pointer (some ⟨pv, 0, none⟩)] w fun e w' => e = .returned (.tuple #[]) ∧ Below w.heap.size w w' := by
  obtain ⟨Q, hQ⟩ : ∃ Q : Ending → World → Prop, Q = fun e w' => e = .returned (.tuple #[]) ∧ Below w.heap.size w w' := ⟨_, rfl⟩
  rw [← hQ]
  have HQ := Lib.hid hQ
  have CA := Lib.hid cA
  clear cA hQ
  rcases hy with rfl | ⟨t, u, rfl⟩
  all_goals
    go_enter Tryd.func29, Tryd.ntmps29
    go_wp2_with (go_at_call 33; (refine (CA.out _ (Keeps.refl _)).mono ?_); rintro e w1 ⟨⟨v, rfl⟩, hb1⟩)
    go_end0
    rw [HQ.out]
    exact ⟨rfl, hb1⟩

set_option maxRecDepth 100000 in
set_option maxHeartbeats 400000 in
theorem pan_bad_3 (w : World) (pa pv : Nat) (i : Int) (y : Value) (hy : y = .nilIface ∨ ∃ t u, y = .iface t u) (h0 : w.cell? ⟨pa, 0, none⟩ = some (.int .i64 3)) (h1 : w.cell? ⟨pv, 0, none⟩ = some (.int .u64 i)) (h2 : w.cell? ⟨pv, 1, none⟩ = some y)
    (cA : ∀ wx, Keeps w wx → Calls Tryd.prog 33 #[.agg #[.int .u64 i, y]] wx (BadEnd wx)) :
    Calls Tryd.prog 29 #[.pointer (some ⟨pa, 0, none⟩), .pointer (some ⟨pv, 0, none⟩)] w fun e w' => (∃ t x, e = .panicked [{ v := .iface t x, recovered := false }]) ∧ Below w.heap.size w w' := by
  obtain ⟨Q, hQ⟩ : ∃ Q : Ending → World → Prop, Q = fun e w' => (∃ t x, e = .panicked [{ v := .iface t x, recovered := false }]) ∧ Below w.heap.size w w' := ⟨_, rfl⟩
  rw [← hQ]
  have HQ := Lib.hid hQ
  have CA := Lib.hid cA
  clear cA hQ
  rcases hy with rfl | ⟨t, u, rfl⟩
  all_goals
    go_enter Tryd.func29, Tryd.ntmps29
    go_wp2_with (go_at_call 33; (refine (CA.out _ (Keeps.refl _)).mono ?_); rintro e w1 ⟨⟨t, x, rfl⟩, hb1⟩)
    exact ⟨rfl, by rw [HQ.out]; exact ⟨⟨_, _, rfl⟩, hb1⟩⟩

set_option maxRecDepth 100000 in
set_option maxHeartbeats 400000 in
theorem pan_fine_4 (w : World) (pa pv : Nat) (i : Int) (y : Value) (hy : y = .nilIface ∨ ∃ t u, y = .iface t u) (h0 : w.cell? ⟨pa, 0, none⟩ = some (.int .i64 4)) (h1 : w.cell? ⟨pv, 0, none⟩ = some (.int .u64 i)) (h2 : w.cell? ⟨pv, 1, none⟩ = some y)
    (cA : ∀ wx, Keeps w wx → Calls Tryd.prog 34 #[.agg #[.int .u64 i, y]] wx (FineEnd wx)) :
    Calls Tryd.prog 29 #[.pointer (some ⟨pa, 0, none⟩), .pointer (some ⟨pv, 0, none⟩)] w fun e w' => e = .returned (.tuple #[]) ∧ Below w.heap.size w w' := by
  obtain ⟨Q, hQ⟩ : ∃ Q : Ending → World → Prop, Q = fun e w' => e = .returned (.tuple #[]) ∧ Below w.heap.size w w' := ⟨_, rfl⟩
  rw [← hQ]
  have HQ := Lib.hid hQ
  have CA := Lib.hid cA
  clear cA hQ
  rcases hy with rfl | ⟨t, u, rfl⟩
  all_goals
    go_enter Tryd.func29, Tryd.ntmps29
    go_wp2_with (go_at_call 34; (refine (CA.out _ (Keeps.refl _)).mono ?_); rintro e w1 ⟨⟨v, rfl⟩, hb1⟩)
    go_end0
    rw [HQ.out]
    exact ⟨rfl, hb1⟩

set_option maxRecDepth 100000 in
set_option maxHeartbeats 400000 in
theorem pan_bad_4 (w : World) (pa pv : Nat) (i : Int) (y : Value) (hy : y = .nilIface ∨ ∃ t u, y = .iface t u) (h0 : w.cell? ⟨pa, 0, none⟩ = some (.int .i64 4)) (h1 : w.cell? ⟨pv, 0, none⟩ = some (.int .u64 i)) (h2 : w.cell? ⟨pv, 1, none⟩ = some y)
    (cA : ∀ wx, Keeps w wx → Calls Tryd.prog 34 #[.agg #[.int .u64 i, y]] wx (BadEnd wx)) :
    Calls Tryd.prog 29 #[.pointer (some ⟨pa, 0, none⟩), .pointer (some ⟨pv, 0, none⟩)] w fun e w' => (∃ t x, e = .panicked [{ v := .iface t x, recovered := false }]) ∧ Below w.heap.size w w' := by
  obtain ⟨Q, hQ⟩ : ∃ Q : Ending → World → Prop, Q = fun e w' => (∃ t x, e = .panicked [{ v := .iface t x, recovered := false }]) ∧ Below w.heap.size w w' := ⟨_, rfl⟩
  rw [← hQ]
  have HQ := Lib.hid hQ
  have CA := Lib.hid cA
  clear cA hQ
  rcases hy with rfl | ⟨t, u, rfl⟩
  all_goals
    go_enter Tryd.func29, Tryd.ntmps29
    go_wp2_with (go_at_call 34; (refine (CA.out _ (Keeps.refl _)).mono ?_); rintro e w1 ⟨⟨t, x, rfl⟩, hb1⟩)
    exact ⟨rfl, by rw [HQ.out]; exact ⟨⟨_, _, rfl⟩, hb1⟩⟩

set_option maxRecDepth 100000 in
set_option maxHeartbeats 400000 in
theorem pan_fine_5 (w : World) (pa pv : Nat) (i : Int) (y : Value) (hy : y = .nilIface ∨ ∃ t u, y = .iface t u) (h0 : w.cell? ⟨pa, 0, none⟩ = some (.int .i64 5)) (h1 : w.cell? ⟨pv, 0, none⟩ = some (.int .u64 i)) (h2 : w.cell? ⟨pv, 1, none⟩ = some y)
    (cA : ∀ wx, Keeps w wx → Calls Tryd.prog 35 #[.agg #[.int .u64 i, y]] wx (FineEnd wx)) :
    Calls Tryd.prog 29 #[.pointer (some ⟨pa, 0, none⟩), .pointer (some ⟨pv, 0, none⟩)] w fun e w' => e = .returned (.tuple #[]) ∧ Below w.heap.size w w' := by
  obtain ⟨Q, hQ⟩ : ∃ Q : Ending → World → Prop, Q = fun e w' => e = .returned (.tuple #[]) ∧ Below w.heap.size w w' := ⟨_, rfl⟩
  rw [← hQ]
  have HQ := Lib.hid hQ
  have CA := Lib.hid cA
  clear cA hQ
  rcases hy with rfl | ⟨t, u, rfl⟩
  all_goals
    go_enter Tryd.func29, Tryd.ntmps29
    go_wp2_with (go_at_call 35; (refine (CA.out _ (Keeps.refl _)).mono ?_); rintro e w1 ⟨⟨v, rfl⟩, hb1⟩)
    go_end0
    rw [HQ.out]
    exact ⟨rfl, hb1⟩

set_option maxRecDepth 100000 in
set_option maxHeartbeats 400000 in
theorem pan_bad_5 (w : World) (pa pv : Nat) (i : Int) (y : Value) (hy : y = .nilIface ∨ ∃ t u, y = .iface t u) (h0 : w.cell? ⟨pa, 0, none⟩ = some (.int .i64 5)) (h1 : w.cell? ⟨pv, 0, none⟩ = some (.int .u64 i)) (h2 : w.cell? ⟨pv, 1, none⟩ = some y)
    (cA : ∀ wx, Keeps w wx → Calls Tryd.prog 35 #[.agg #[.int .u64 i, y]] wx (BadEnd wx)) :
    Calls Tryd.prog 29 #[.pointer (some ⟨pa, 0, none⟩), .pointer (some ⟨pv, 0, none⟩)] w fun e w' => (∃ t x, e = .panicked [{ v := .iface t x, recovered := false }]) ∧ Below w.heap.size w w' := by
  obtain ⟨Q, hQ⟩ : ∃ Q : Ending → World → Prop, Q = fun e w' => (∃ t x, e = .panicked [{ v := .iface t x, recovered := false }]) ∧ Below w.heap.size w w' := ⟨_, rfl⟩
  rw [← hQ]
  have HQ := Lib.hid hQ
  have CA := Lib.hid cA
  clear cA hQ
  rcases hy with rfl | ⟨t, u, rfl⟩
  all_goals
    go_enter Tryd.func29, Tryd.ntmps29
    go_wp2_with (go_at_call 35; (refine (CA.out _ (Keeps.refl _)).mono ?_); rintro e w1 ⟨⟨t, x, rfl⟩, hb1⟩)
    exact ⟨rfl, by rw [HQ.out]; exact ⟨⟨_, _, rfl⟩, hb1⟩⟩

set_option maxRecDepth 100000 in
set_option maxHeartbeats 400000 in
theorem pan_fine_6 (w : World) (pa pv : Nat) (i : Int) (y : Value) (hy : y = .nilIface ∨ ∃ t u, y = .iface t u) (h0 : w.cell? ⟨pa, 0, none⟩ = some (.int .i64 6)) (h1 : w.cell? ⟨pv, 0, none⟩ = some (.int .u64 i)) (h2 : w.cell? ⟨pv, 1, none⟩ = some y)
    (cA : ∀ wx, Keeps w wx → Calls Tryd.prog 36 #[.agg #[.int .u64 i, y]] wx (FineEnd wx)) :
    Calls Tryd.prog 29 #[.pointer (some ⟨pa, 0, none⟩), .pointer (some ⟨pv, 0, none⟩)] w fun e w' => e = .returned (.tuple #[]) ∧ Below w.heap.size w w' := by
  obtain ⟨Q, hQ⟩ : ∃ Q : Ending → World → Prop, Q = fun e w' => e = .returned (.tuple #[]) ∧ Below w.heap.size w w' := ⟨_, rfl⟩
  rw [← hQ]
  have HQ := Lib.hid hQ
  have CA := Lib.hid cA
  clear cA hQ
  rcases hy with rfl | ⟨t, u, rfl⟩
  all_goals
    go_enter Tryd.func29, Tryd.ntmps29
    go_wp2_with (go_at_call 36; (refine (CA.out _ (Keeps.refl _)).mono ?_); rintro e w1 ⟨⟨v, rfl⟩, hb1⟩)
    go_end0
    rw [HQ.out]
    exact ⟨rfl, hb1⟩

set_option maxRecDepth 100000 in
set_option maxHeartbeats 400000 in
theorem pan_bad_6 (w : World) (pa pv : Nat) (i : Int) (y : Value) (hy : y = .nilIface ∨ ∃ t u, y = .iface t u) (h0 : w.cell? ⟨pa, 0, none⟩ = some (.int .i64 6)) (h1 : w.cell? ⟨pv, 0, none⟩ = some (.int .u64 i)) (h2 : w.cell? ⟨pv, 1, none⟩ = some y)
    (cA : ∀ wx, Keeps w wx → Calls Tryd.prog 36 #[.agg #[.int .u64 i, y]] wx (BadEnd wx)) :
    Calls Tryd.prog 29 #[.pointer (some ⟨pa, 0, none⟩), .pointer (some ⟨pv, 0, none⟩)] w fun e w' => (∃ t x, e = .panicked [{ v := .iface t x, recovered := false }]) ∧ Below w.heap.size w w' := by
  obtain ⟨Q, hQ⟩ : ∃ Q : Ending → World → Prop, Q = fun e w' => (∃ t x, e = .panicked [{ v := .iface t x, recovered := false }]) ∧ Below w.heap.size w w' := ⟨_, rfl⟩
  rw [← hQ]
  have HQ := Lib.hid hQ
  have CA := Lib.hid cA
  clear cA hQ
  rcases hy with rfl | ⟨t, u, rfl⟩
  all_goals
    go_enter Tryd.func29, Tryd.ntmps29
    go_wp2_with (go_at_call 36; (refine (CA.out _ (Keeps.refl _)).mono ?_); rintro e w1 ⟨⟨t, x, rfl⟩, hb1⟩)
    exact ⟨rfl, by rw [HQ.out]; exact ⟨⟨_, _, rfl⟩, hb1⟩⟩

set_option maxRecDepth 100000 in
set_option maxHeartbeats 400000 in
theorem pan_fine_7 (w : World) (pa pv : Nat) (i : Int) (y : Value) (hy : y = .nilIface ∨ ∃ t u, y = .iface t u) (h0 : w.cell? ⟨pa, 0, none⟩ = some (.int .i64 7)) (h1 : w.cell? ⟨pv, 0, none⟩ = some (.int .u64 i)) (h2 : w.cell? ⟨pv, 1, none⟩ = some y)
    (cA : ∀ wx, Keeps w wx → Calls Tryd.prog 37 #[.agg #[.int .u64 i, y]] wx (FineEnd wx)) :
    Calls Tryd.prog 29 #[.pointer (some ⟨pa, 0, none⟩), .pointer (some ⟨pv, 0, none⟩)] w fun e w' => e = .returned (.tuple #[]) ∧ Below w.heap.size w w' := by
  obtain ⟨Q, hQ⟩ : ∃ Q : Ending → World → Prop, Q = fun e w' => e = .returned (.tuple #[]) ∧ Below w.heap.size w w' := ⟨_, rfl⟩
  rw [← hQ]
  have HQ := Lib.hid hQ
  have CA := Lib.hid cA
  clear cA hQ
  rcases hy with rfl | ⟨t, u, rfl⟩
  all_goals
    go_enter Tryd.func29, Tryd.ntmps29
    go_wp2_with (go_at_call 37; (refine (CA.out _ (Keeps.refl _)).mono ?_); rintro e w1 ⟨⟨v, rfl⟩, hb1⟩)
    go_end0
    rw [HQ.out]
    exact ⟨rfl, hb1⟩

set_option maxRecDepth 100000 in
set_option maxHeartbeats 400000 in
theorem pan_bad_7 (w : World) (pa pv : Nat) (i : Int) (y : Value) (hy : y = .nilIface ∨ ∃ t u, y = .iface t u) (h0 : w.cell? ⟨pa, 0, none⟩ = some (.int .i64 7)) (h1 : w.cell? ⟨pv, 0, none⟩ = some (.int .u64 i)) (h2 : w.cell? ⟨pv, 1, none⟩ = some y)
    (cA : ∀ wx, Keeps w wx → Calls Tryd.prog 37 #[.agg #[.int .u64 i, y]] wx (BadEnd wx)) :
    Calls Tryd.prog 29 #[.pointer (some ⟨pa, 0, none⟩), .pointer (some ⟨pv, 0, none⟩)] w fun e w' => (∃ t x, e = .panicked [{ v := .iface t x, recovered := false }]) ∧ Below w.heap.size w w' := by
  obtain ⟨Q, hQ⟩ : ∃ Q : Ending → World → Prop, Q = fun e w' => (∃ t x, e = .panicked [{ v := .iface t x, recovered := false }]) ∧ Below w.heap.size w w' := ⟨_, rfl⟩
  rw [← hQ]
  have HQ := Lib.hid hQ
  have CA := Lib.hid cA
  clear cA hQ
  rcases hy with rfl | ⟨t, u, rfl⟩
  all_goals
    go_enter Tryd.func29, Tryd.ntmps29
    go_wp2_with (go_at_call 37; (refine (CA.out _ (Keeps.refl _)).mono ?_); rintro e w1 ⟨⟨t, x, rfl⟩, hb1⟩)
    exact ⟨rfl, by rw [HQ.out]; exact ⟨⟨_, _, rfl⟩, hb1⟩⟩

/-- The kind that an accessor reads. -/
def accKind (a : Int) : Int := if a = 0 then 1 else if a = 1 then 2 else if a = 2 then 3 else if a = 3 then 8 else if a = 4 then 4 else if a = 5 then 9 else if a = 6 then 6 else 7

theorem fine_end {w : World} {e : Ending} {w' : World} {v : Value} (h : e = .returned v ∧ Below w.heap.size w w') : FineEnd w e w' := ⟨⟨v, h.1⟩, h.2⟩

/-- The closure of impl.Panics. -/
theorem panClos (a : Int) (h0 : 0 ≤ a) (h7 : a ≤ 7) {P : Nat → Prop} (d : SVal) (w : World) (x y : Value) (pa pv : Nat) (hk0 : 0 ≤ d.kind) (hk9 : d.kind ≤ 9) (hT : KTab w) (h : RSV P w d x y)
    (c0 : w.cell? ⟨pa, 0, none⟩ = some (.int .i64 a)) (c1 : w.cell? ⟨pv, 0, none⟩ = some x) (c2 : w.cell? ⟨pv, 1, none⟩ = some y) :
    Calls Tryd.prog 29 #[.pointer (some ⟨pa, 0, none⟩), .pointer (some ⟨pv, 0, none⟩)] w fun e w' => (if d.kind = accKind a then e = .returned (.tuple #[]) else ∃ t x, e = .panicked [{ v := .iface t x, recovered := false }]) ∧ Below w.heap.size w w' := by
  obtain ⟨i, rfl, hy⟩ := shape_of h
  have ha : a = 0 ∨ a = 1 ∨ a = 2 ∨ a = 3 ∨ a = 4 ∨ a = 5 ∨ a = 6 ∨ a = 7 := by omega
  rcases ha with rfl | rfl | rfl | rfl | rfl | rfl | rfl | rfl
  · have e : accKind 0 = 1 := rfl
    rw [e]
    by_cases hk : d.kind = 1
    · refine (pan_fine_0 w pa pv i y hy c0 c1 c2 (fun wx hx => ?_)).mono fun e w' hh => ⟨by rw [if_pos hk]; exact hh.1, hh.2⟩
      have h' := h
      cases d with
      | num k n =>
        obtain rfl : k = 1 := hk
        unfold RSV at h'
        obtain ⟨e1, rfl, _, g0, g1⟩ := h'
        cases e1
        exact (get_Bool _ wx g0 g1).mono fun e w' hh => fine_end hh
      | _ => first | (exfalso; revert hk; simp [SVal.kind]; done) | (exfalso; exact absurd hk (by simp [SVal.kind]))
    · exact (pan_bad_0 w pa pv i y hy c0 c1 c2 (fun wx hx => bad_Bool d wx _ y hk hk0 hk9 (hT.keep hx) (h.keep hx))).mono fun e w' hh => ⟨by rw [if_neg hk]; exact hh.1, hh.2⟩
  · have e : accKind 1 = 2 := rfl
    rw [e]
    by_cases hk : d.kind = 2
    · refine (pan_fine_1 w pa pv i y hy c0 c1 c2 (fun wx hx => ?_)).mono fun e w' hh => ⟨by rw [if_pos hk]; exact hh.1, hh.2⟩
      have h' := h
      cases d with
      | num k n =>
        obtain rfl : k = 2 := hk
        unfold RSV at h'
        obtain ⟨e1, rfl, _, g0, g1⟩ := h'
        cases e1
        exact (get_Duration _ wx g0 g1).mono fun e w' hh => fine_end hh
      | _ => first | (exfalso; revert hk; simp [SVal.kind]; done) | (exfalso; exact absurd hk (by simp [SVal.kind]))
    · exact (pan_bad_1 w pa pv i y hy c0 c1 c2 (fun wx hx => bad_Duration d wx _ y hk hk0 hk9 (hT.keep hx) (h.keep hx))).mono fun e w' hh => ⟨by rw [if_neg hk]; exact hh.1, hh.2⟩
  · have e : accKind 2 = 3 := rfl
    rw [e]
    by_cases hk : d.kind = 3
    · refine (pan_fine_2 w pa pv i y hy c0 c1 c2 (fun wx hx => ?_)).mono fun e w' hh => ⟨by rw [if_pos hk]; exact hh.1, hh.2⟩
      have h' := h
      cases d with
      | num k n =>
        obtain rfl : k = 3 := hk
        unfold RSV at h'
        obtain ⟨e1, rfl, _, g0, g1⟩ := h'
        cases e1
        exact (get_Float64 _ wx g0 g1).mono fun e w' hh => fine_end hh
      | _ => first | (exfalso; revert hk; simp [SVal.kind]; done) | (exfalso; exact absurd hk (by simp [SVal.kind]))
    · exact (pan_bad_2 w pa pv i y hy c0 c1 c2 (fun wx hx => bad_Float64 d wx _ y hk hk0 hk9 (hT.keep hx) (h.keep hx))).mono fun e w' hh => ⟨by rw [if_neg hk]; exact hh.1, hh.2⟩
  · have e : accKind 3 = 8 := rfl
    rw [e]
    by_cases hk : d.kind = 8
    · refine (pan_fine_3 w pa pv i y hy c0 c1 c2 (fun wx hx => ?_)).mono fun e w' hh => ⟨by rw [if_pos hk]; exact hh.1, hh.2⟩
      have h' := h
      cases d with
      | num k n => unfold RSV at h'; obtain ⟨_, _, hkk, _⟩ := h'; exfalso; simp only [SVal.kind] at hk; omega
      | group l =>
        unfold RSV at h'
        obtain ⟨A, len, cap, e1, rfl, _⟩ := h'
        exact (get_Group i A len cap wx).mono fun e w' hh => fine_end hh
      | _ => exact absurd hk (by simp [SVal.kind])
    · exact (pan_bad_3 w pa pv i y hy c0 c1 c2 (fun wx hx => bad_Group d wx _ y hk (h.keep hx))).mono fun e w' hh => ⟨by rw [if_neg hk]; exact hh.1, hh.2⟩
  · have e : accKind 4 = 4 := rfl
    rw [e]
    by_cases hk : d.kind = 4
    · refine (pan_fine_4 w pa pv i y hy c0 c1 c2 (fun wx hx => ?_)).mono fun e w' hh => ⟨by rw [if_pos hk]; exact hh.1, hh.2⟩
      have h' := h
      cases d with
      | num k n =>
        obtain rfl : k = 4 := hk
        unfold RSV at h'
        obtain ⟨e1, rfl, _, g0, g1⟩ := h'
        cases e1
        exact (get_Int64 _ wx g0 g1).mono fun e w' hh => fine_end hh
      | _ => first | (exfalso; revert hk; simp [SVal.kind]; done) | (exfalso; exact absurd hk (by simp [SVal.kind]))
    · exact (pan_bad_4 w pa pv i y hy c0 c1 c2 (fun wx hx => bad_Int64 d wx _ y hk hk0 hk9 (hT.keep hx) (h.keep hx))).mono fun e w' hh => ⟨by rw [if_neg hk]; exact hh.1, hh.2⟩
  · have e : accKind 5 = 9 := rfl
    rw [e]
    by_cases hk : d.kind = 9
    · refine (pan_fine_5 w pa pv i y hy c0 c1 c2 (fun wx hx => ?_)).mono fun e w' hh => ⟨by rw [if_pos hk]; exact hh.1, hh.2⟩
      have h' := h
      cases d with
      | num k n => unfold RSV at h'; obtain ⟨_, _, hkk, _⟩ := h'; exfalso; simp only [SVal.kind] at hk; omega
      | valuer n v c =>
        unfold RSV at h'
        obtain ⟨vx, vy, e1, rfl, _⟩ := h'
        exact (get_LogValuer i _ (.inl rfl) _ wx).mono fun e w' hh => fine_end hh
      | throws q c =>
        unfold RSV at h'
        obtain ⟨e1, rfl⟩ := h'
        exact (get_LogValuer i _ (.inr rfl) _ wx).mono fun e w' hh => fine_end hh
      | _ => exact absurd hk (by simp [SVal.kind])
    · exact (pan_bad_5 w pa pv i y hy c0 c1 c2 (fun wx hx => bad_LogValuer d wx _ y hk (h.keep hx))).mono fun e w' hh => ⟨by rw [if_neg hk]; exact hh.1, hh.2⟩
  · have e : accKind 6 = 6 := rfl
    rw [e]
    by_cases hk : d.kind = 6
    · refine (pan_fine_6 w pa pv i y hy c0 c1 c2 (fun wx hx => ?_)).mono fun e w' hh => ⟨by rw [if_pos hk]; exact hh.1, hh.2⟩
      have h' := h
      cases d with
      | num k n => unfold RSV at h'; obtain ⟨_, _, hkk, _⟩ := h'; exfalso; simp only [SVal.kind] at hk; omega
      | time t =>
        unfold RSV at h'
        obtain ⟨e1, rfl⟩ := h'
        cases e1
        exact (get_Time t wx).mono fun e w' hh => fine_end hh
      | _ => exact absurd hk (by simp [SVal.kind])
    · exact (pan_bad_6 w pa pv i y hy c0 c1 c2 (fun wx hx => bad_Time d wx _ y hk hk0 hk9 (hT.keep hx) (h.keep hx))).mono fun e w' hh => ⟨by rw [if_neg hk]; exact hh.1, hh.2⟩
  · have e : accKind 7 = 7 := rfl
    rw [e]
    by_cases hk : d.kind = 7
    · refine (pan_fine_7 w pa pv i y hy c0 c1 c2 (fun wx hx => ?_)).mono fun e w' hh => ⟨by rw [if_pos hk]; exact hh.1, hh.2⟩
      have h' := h
      cases d with
      | num k n =>
        obtain rfl : k = 7 := hk
        unfold RSV at h'
        obtain ⟨e1, rfl, _, g0, g1⟩ := h'
        cases e1
        exact (get_Uint64 _ wx g0 g1).mono fun e w' hh => fine_end hh
      | _ => first | (exfalso; revert hk; simp [SVal.kind]; done) | (exfalso; exact absurd hk (by simp [SVal.kind]))
    · exact (pan_bad_7 w pa pv i y hy c0 c1 c2 (fun wx hx => bad_Uint64 d wx _ y hk hk0 hk9 (hT.keep hx) (h.keep hx))).mono fun e w' hh => ⟨by rw [if_neg hk]; exact hh.1, hh.2⟩

theorem own_boxP {W w' : World} (hb : Below (W.alloc (.cells #[.bool false] 4)).heap.size (W.alloc (.cells #[.bool false] 4)) w') : w'.cell? ⟨W.heap.size, 0, none⟩ = some (.bool false) ∧ w'.frozen? ⟨W.heap.size, 0, none⟩ = false :=
  ⟨(hb.cell (p := ⟨_, 0, none⟩) (by simp)).trans (cell_new _ _ _ _ _ _ rfl rfl), (hb.frozen (p := ⟨_, 0, none⟩) (by simp)).trans (World.frozen?_alloc_new _ _ _ _)⟩

/-- impl.caught of an accessor. -/
theorem caughtPan (a : Int) (h0 : 0 ≤ a) (h7 : a ≤ 7) {P : Nat → Prop} (d : SVal) (W : World) (x y : Value) (pa pv : Nat) (hk0 : 0 ≤ d.kind) (hk9 : d.kind ≤ 9) (hT : KTab W) (h : RSV P W d x y)
    (c0 : W.cell? ⟨pa, 0, none⟩ = some (.int .i64 a)) (c1 : W.cell? ⟨pv, 0, none⟩ = some x) (c2 : W.cell? ⟨pv, 1, none⟩ = some y) :
    Calls Tryd.prog 23 #[.func (.func 29) #[] #[.pointer (some ⟨pa, 0, none⟩), .pointer (some ⟨pv, 0, none⟩)]] W fun e w' => e = .returned (.bool (decide (d.kind ≠ accKind a))) ∧ Below W.heap.size W w' := by
  have hkb : Below W.heap.size W (W.alloc (.cells #[.bool false] 4)) := (Below.refl _ _).alloc (Nat.le_refl _) _
  have hk : Keeps W (W.alloc (.cells #[.bool false] 4)) := keeps_of_below hkb
  have hcl := panClos a h0 h7 d (W.alloc (.cells #[.bool false] 4)) x y pa pv hk0 hk9 (hT.keep hk) (h.keep hk) (hk.cell c0) (hk.cell c1) (hk.cell c2)
  by_cases hd : d.kind = accKind a
  · refine (caught_ok_acc _ W (fun wx w' => Below wx.heap.size wx w') ?_).mono ?_
    · rintro wx rfl
      refine hcl.mono fun e w' hh => ?_
      rw [if_pos hd] at hh
      exact ⟨hh.1, hh.2, own_boxP hh.2⟩
    · rintro e w' ⟨rfl, wm, h1, rfl⟩
      have hB := keeps_below hkb h1
      exact ⟨by simp [hd], (hB.setCell (by simp) _).setCell (by simp) _⟩
  · refine (caught_bad_acc _ W (fun wx w' => Below wx.heap.size wx w') ?_).mono ?_
    · rintro wx rfl
      refine hcl.mono fun e w' hh => ?_
      rw [if_neg hd] at hh
      exact ⟨hh.1, hh.2, own_boxP hh.2⟩
    · rintro e w' ⟨rfl, wm, h1, rfl⟩
      have hB := keeps_below hkb h1
      exact ⟨by simp [hd], hB.setCell (by simp) _⟩

set_option maxRecDepth 100000 in
set_option maxHeartbeats 1000000 in
/-- impl.Panics. -/
theorem implPan_any (da : GVal) (sa : SVal) (a : Int) (h0 : 0 ≤ a) (h7 : a ≤ 7) (w : World) (A : Option Addr) (len cap : Nat) (hk0 : 0 ≤ sa.kind) (hk9 : sa.kind ≤ 9) (hT : KTab w)
    (cA : ∀ wx, Keeps w wx → Calls Tryd.prog 25 #[vVal da A len cap, .pointer none] wx (ValPost sa wx)) :
    Calls Tryd.prog 15 #[vVal da A len cap, .int .i64 a] w fun e w' => e = .returned (.bool (decide (sa.kind ≠ accKind a))) ∧ Below w.heap.size w w' := by
  have hmf : ∀ (fn : Fn) (first cap : Array Value) (w : World), (Instr.makeFunc fn first cap).run Tryd.prog w = .ok (.func fn first cap) w := fun _ _ _ _ => rfl
  have HKK := Lib.hid (And.intro hk0 hk9)
  have HT := Lib.hid hT
  obtain ⟨Q, hQ⟩ : ∃ Q : Ending → World → Prop, Q = fun e w' => e = .returned (.bool (decide (sa.kind ≠ accKind a))) ∧ Below w.heap.size w w' := ⟨_, rfl⟩
  rw [← hQ]
  have HQ := Lib.hid hQ
  have CA := Lib.hid cA
  clear cA hQ hT hk0 hk9
  unfold vVal at CA ⊢
  go_enter Tryd.func15, Tryd.ntmps15
  go_wp2_with (go_at_call 25; (refine (CA.out _ (keeps_of_below (by repeat' (first | with_reducible assumption | with_reducible exact Below.refl _ _ | with_reducible refine Below.setCell ?_ ?_ _ | with_reducible refine Below.alloc ?_ ?_ _ | with_reducible refine Below.drew ?_ | with_reducible refine below_drewN ?_ _ | omega | (simp; done) | (simp; omega))))).mono ?_); rintro e w1 ⟨x1, y1, rfl, hr1, hb1⟩; obtain ⟨i1, rfl, hy⟩ := rsv_shape hr1; have HR := Lib.hid hr1; have hB1 := keeps_below (show Below w.heap.size w _ from (by repeat' (first | with_reducible assumption | with_reducible exact Below.refl _ _ | with_reducible refine Below.setCell ?_ ?_ _ | with_reducible refine Below.alloc ?_ ?_ _ | with_reducible refine Below.drew ?_ | with_reducible refine below_drewN ?_ _ | omega | (simp; done) | (simp; omega)))) hb1; obtain ⟨hc1, hf1⟩ := bcell hb1; have hz1 := hb1.size; (try simp at hz1); have e10 : w.heap.size < w1.heap.size := (by omega); have e11 : w.heap.size + 1 < w1.heap.size := (by omega); clear hr1 hb1; rcases hy with rfl | ⟨t, u, rfl⟩)
  all_goals
    go_wp2_with (go_at_call 23; (refine (caughtPan a h0 h7 sa _ _ _ _ _ HKK.out.1 HKK.out.2 (HT.out.keep ((keeps_of_below hB1).trans (keeps_alloc _ _))) (HR.out.keep (keeps_alloc _ _)) ((keeps_alloc _ _).cell ((hc1 _ 0 (by simp)).trans (cell_new _ _ _ _ _ _ (by simp) rfl))) (cell_new _ _ _ _ _ _ rfl rfl) (cell_new _ _ _ _ _ _ rfl rfl)).mono ?_); rintro e w2 ⟨rfl, hb2⟩; have hB2 := keeps_below (keeps_below hB1 ((Below.refl _ _).alloc (Nat.le_refl _) _)) hb2)
    rw [HQ.out]
    exact ⟨by simp, hB2⟩

end Go.Proofs.YtcgdnjigocknbaaDoor.Va

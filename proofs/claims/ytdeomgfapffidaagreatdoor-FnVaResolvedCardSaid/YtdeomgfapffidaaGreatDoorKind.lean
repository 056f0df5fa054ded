/- The kind of a Value of package slog, and the parts of it: the walks. -/
import Derived.Test.YtdeomgfapffidaaGreatDoorSMem
namespace Go.Proofs.YtdeomgfapffidaaGreatDoor.Va
set_option linter.unusedVariables false
set_option linter.unusedSimpArgs false
open Go Go.RowKit

set_option maxRecDepth 100000 in
set_option maxHeartbeats 400000 in
/-- (slog.Value).Kind. -/
theorem kind_any {P : Nat → Prop} (d : SVal) (w : World) (x y : Value) (h : RSV P w d x y) :
    Calls Tryz.prog 70 #[.agg #[x, y]] w fun e w' => e = .returned (.int .i64 d.kind) ∧ Below w.heap.size w w' := by
  have hx : ∃ i, x = .int .u64 i := by
    cases d <;> unfold RSV at h
    case group => obtain ⟨A, len, cap, rfl, _⟩ := h; exact ⟨_, rfl⟩
    case valuer => obtain ⟨vx, vy, rfl, _⟩ := h; exact ⟨_, rfl⟩
    all_goals exact ⟨_, h.1⟩
  obtain ⟨i, rfl⟩ := hx
  cases d with
  | num k n =>
    unfold RSV at h; obtain ⟨_, rfl, _⟩ := h
    go_enter Tryz.func70, Tryz.ntmps70
    go_wp2
    go_ret
    exact ⟨rfl, (by repeat' (first | with_reducible assumption | with_reducible exact Below.refl _ _ | with_reducible refine Below.setCell ?_ ?_ _ | with_reducible refine Below.alloc ?_ ?_ _ | with_reducible refine Below.drew ?_ | with_reducible refine below_drewN ?_ _ | omega | (simp; done) | (simp; omega)))⟩
  | str s =>
    unfold RSV at h; obtain ⟨_, rfl⟩ := h
    go_enter Tryz.func70, Tryz.ntmps70
    go_wp2
    go_ret
    exact ⟨rfl, (by repeat' (first | with_reducible assumption | with_reducible exact Below.refl _ _ | with_reducible refine Below.setCell ?_ ?_ _ | with_reducible refine Below.alloc ?_ ?_ _ | with_reducible refine Below.drew ?_ | with_reducible refine below_drewN ?_ _ | omega | (simp; done) | (simp; omega)))⟩
  | time t =>
    unfold RSV at h; obtain ⟨_, rfl⟩ := h
    go_enter Tryz.func70, Tryz.ntmps70
    go_wp2
    go_ret
    exact ⟨rfl, (by repeat' (first | with_reducible assumption | with_reducible exact Below.refl _ _ | with_reducible refine Below.setCell ?_ ?_ _ | with_reducible refine Below.alloc ?_ ?_ _ | with_reducible refine Below.drew ?_ | with_reducible refine below_drewN ?_ _ | omega | (simp; done) | (simp; omega)))⟩
  | group l =>
    unfold RSV at h; obtain ⟨A, len, cap, _, rfl, _⟩ := h
    go_enter Tryz.func70, Tryz.ntmps70
    go_wp2
    go_ret
    exact ⟨rfl, (by repeat' (first | with_reducible assumption | with_reducible exact Below.refl _ _ | with_reducible refine Below.setCell ?_ ?_ _ | with_reducible refine Below.alloc ?_ ?_ _ | with_reducible refine Below.drew ?_ | with_reducible refine below_drewN ?_ _ | omega | (simp; done) | (simp; omega)))⟩
  | valuer n v c =>
    unfold RSV at h; obtain ⟨vx, vy, _, rfl, _⟩ := h
    go_enter Tryz.func70, Tryz.ntmps70
    go_wp2
    go_ret
    exact ⟨rfl, (by repeat' (first | with_reducible assumption | with_reducible exact Below.refl _ _ | with_reducible refine Below.setCell ?_ ?_ _ | with_reducible refine Below.alloc ?_ ?_ _ | with_reducible refine Below.drew ?_ | with_reducible refine below_drewN ?_ _ | omega | (simp; done) | (simp; omega)))⟩
  | throws s c =>
    unfold RSV at h; obtain ⟨_, rfl⟩ := h
    go_enter Tryz.func70, Tryz.ntmps70
    go_wp2
    go_ret
    exact ⟨rfl, (by repeat' (first | with_reducible assumption | with_reducible exact Below.refl _ _ | with_reducible refine Below.setCell ?_ ?_ _ | with_reducible refine Below.alloc ?_ ?_ _ | with_reducible refine Below.drew ?_ | with_reducible refine below_drewN ?_ _ | omega | (simp; done) | (simp; omega)))⟩
  | any g =>
    unfold RSV at h; obtain ⟨_, h⟩ := h
    cases g <;> simp only [RAny] at h
    case bytes => obtain ⟨A, len, cap, rfl, _⟩ := h; go_enter Tryz.func70, Tryz.ntmps70; go_wp2; go_ret; exact ⟨rfl, (by repeat' (first | with_reducible assumption | with_reducible exact Below.refl _ _ | with_reducible refine Below.setCell ?_ ?_ _ | with_reducible refine Below.alloc ?_ ?_ _ | with_reducible refine Below.drew ?_ | with_reducible refine below_drewN ?_ _ | omega | (simp; done) | (simp; omega)))⟩
    case source => obtain ⟨b, rfl, _⟩ := h; go_enter Tryz.func70, Tryz.ntmps70; go_wp2; go_ret; exact ⟨rfl, (by repeat' (first | with_reducible assumption | with_reducible exact Below.refl _ _ | with_reducible refine Below.setCell ?_ ?_ _ | with_reducible refine Below.alloc ?_ ?_ _ | with_reducible refine Below.drew ?_ | with_reducible refine below_drewN ?_ _ | omega | (simp; done) | (simp; omega)))⟩
    all_goals
      subst h
      go_enter Tryz.func70, Tryz.ntmps70
      go_wp2
      go_ret
      exact ⟨rfl, (by repeat' (first | with_reducible assumption | with_reducible exact Below.refl _ _ | with_reducible refine Below.setCell ?_ ?_ _ | with_reducible refine Below.alloc ?_ ?_ _ | with_reducible refine Below.drew ?_ | with_reducible refine below_drewN ?_ _ | omega | (simp; done) | (simp; omega)))⟩

end Go.Proofs.YtdeomgfapffidaaGreatDoor.Va

/- The kind of a Value of package slog, and the parts of it: the walks. -/
import Derived.Test.YtihhgnbgejjijaaGreatDoorSMem
import Derived.Laws.Externs
namespace Go.Proofs.YtihhgnbgejjijaaGreatDoor.Va
set_option linter.unusedVariables false
set_option linter.unusedSimpArgs false
open Go Go.RowKit

set_option maxRecDepth 100000 in
set_option maxHeartbeats 400000 in
/-- (slog.Value).Kind. -/
theorem kind_any {P : Nat → Prop} (d : SVal) (w : World) (x y : Value) (h : RSV P w d x y) :
    Calls Tryz.prog 133 #[.agg #[x, y]] w fun e w' => e = .returned (.int .i64 d.kind) ∧ Below w.heap.size w w' := by
  have hx : ∃ i, x = .int .u64 i := by
    cases d <;> unfold RSV at h
    case group => obtain ⟨A, len, cap, rfl, _⟩ := h; exact ⟨_, rfl⟩
    case valuer => obtain ⟨vx, vy, rfl, _⟩ := h; exact ⟨_, rfl⟩
    all_goals exact ⟨_, h.1⟩
  obtain ⟨i, rfl⟩ := hx
  cases d with
  | num k n =>
    unfold RSV at h; obtain ⟨_, rfl, _⟩ := h
    go_enter Tryz.func133, Tryz.ntmps133
    go_wp2
    go_ret
    exact ⟨rfl, (by repeat' (first | with_reducible assumption | with_reducible exact Below.refl _ _ | with_reducible refine Below.setCell ?_ ?_ _ | with_reducible refine Below.alloc ?_ ?_ _ | with_reducible refine Below.drew ?_ | with_reducible refine below_drewN ?_ _ | omega | (simp; done) | (simp; omega)))⟩
  | str s =>
    unfold RSV at h; obtain ⟨_, rfl⟩ := h
    go_enter Tryz.func133, Tryz.ntmps133
    go_wp2
    go_ret
    exact ⟨rfl, (by repeat' (first | with_reducible assumption | with_reducible exact Below.refl _ _ | with_reducible refine Below.setCell ?_ ?_ _ | with_reducible refine Below.alloc ?_ ?_ _ | with_reducible refine Below.drew ?_ | with_reducible refine below_drewN ?_ _ | omega | (simp; done) | (simp; omega)))⟩
  | time t =>
    unfold RSV at h; obtain ⟨_, rfl⟩ := h
    go_enter Tryz.func133, Tryz.ntmps133
    go_wp2
    go_ret
    exact ⟨rfl, (by repeat' (first | with_reducible assumption | with_reducible exact Below.refl _ _ | with_reducible refine Below.setCell ?_ ?_ _ | with_reducible refine Below.alloc ?_ ?_ _ | with_reducible refine Below.drew ?_ | with_reducible refine below_drewN ?_ _ | omega | (simp; done) | (simp; omega)))⟩
  | group l =>
    unfold RSV at h; obtain ⟨A, len, cap, _, rfl, _⟩ := h
    go_enter Tryz.func133, Tryz.ntmps133
    go_wp2
    go_ret
    exact ⟨rfl, (by repeat' (first | with_reducible assumption | with_reducible exact Below.refl _ _ | with_reducible refine Below.setCell ?_ ?_ _ | with_reducible refine Below.alloc ?_ ?_ _ | with_reducible refine Below.drew ?_ | with_reducible refine below_drewN ?_ _ | omega | (simp; done) | (simp; omega)))⟩
  | valuer n v c =>
    unfold RSV at h; obtain ⟨vx, vy, _, rfl, _⟩ := h
    go_enter Tryz.func133, Tryz.ntmps133
    go_wp2
    go_ret
    exact ⟨rfl, (by repeat' (first | with_reducible assumption | with_reducible exact Below.refl _ _ | with_reducible refine Below.setCell ?_ ?_ _ | with_reducible refine Below.alloc ?_ ?_ _ | with_reducible refine Below.drew ?_ | with_reducible refine below_drewN ?_ _ | omega | (simp; done) | (simp; omega)))⟩
  | throws s c =>
    unfold RSV at h; obtain ⟨_, rfl⟩ := h
    go_enter Tryz.func133, Tryz.ntmps133
    go_wp2
    go_ret
    exact ⟨rfl, (by repeat' (first | with_reducible assumption | with_reducible exact Below.refl _ _ | with_reducible refine Below.setCell ?_ ?_ _ | with_reducible refine Below.alloc ?_ ?_ _ | with_reducible refine Below.drew ?_ | with_reducible refine below_drewN ?_ _ | omega | (simp; done) | (simp; omega)))⟩
  | any g =>
    unfold RSV at h; obtain ⟨_, h⟩ := h
    cases g <;> simp only [RAny] at h
    case bytes => obtain ⟨A, len, cap, rfl, _⟩ := h; go_enter Tryz.func133, Tryz.ntmps133; go_wp2; go_ret; exact ⟨rfl, (by repeat' (first | with_reducible assumption | with_reducible exact Below.refl _ _ | with_reducible refine Below.setCell ?_ ?_ _ | with_reducible refine Below.alloc ?_ ?_ _ | with_reducible refine Below.drew ?_ | with_reducible refine below_drewN ?_ _ | omega | (simp; done) | (simp; omega)))⟩
    case source => obtain ⟨b, rfl, _⟩ := h; go_enter Tryz.func133, Tryz.ntmps133; go_wp2; go_ret; exact ⟨rfl, (by repeat' (first | with_reducible assumption | with_reducible exact Below.refl _ _ | with_reducible refine Below.setCell ?_ ?_ _ | with_reducible refine Below.alloc ?_ ?_ _ | with_reducible refine Below.drew ?_ | with_reducible refine below_drewN ?_ _ | omega | (simp; done) | (simp; omega)))⟩
    all_goals
      subst h
      go_enter Tryz.func133, Tryz.ntmps133
      go_wp2
      go_ret
      exact ⟨rfl, (by repeat' (first | with_reducible assumption | with_reducible exact Below.refl _ _ | with_reducible refine Below.setCell ?_ ?_ _ | with_reducible refine Below.alloc ?_ ?_ _ | with_reducible refine Below.drew ?_ | with_reducible refine below_drewN ?_ _ | omega | (simp; done) | (simp; omega)))⟩

end Go.Proofs.YtihhgnbgejjijaaGreatDoor.Va

/- The constructors of package slog: the walks. -/
namespace Go.Proofs.YtihhgnbgejjijaaGreatDoor.Va
set_option linter.unusedVariables false
set_option linter.unusedSimpArgs false
open Go Go.RowKit

theorem bits_run (m : Nat) (w : World) : (callFunc 148 #[.float .f64 m]).run Tryz.prog w = .ok (.value (.int .u64 m)) w := by
  rw [run_callFunc_extern (fn := Tryz.f148) (e := Extern.MathFloatBits.float64bits) (by kernel_rfl) (by kernel_rfl) (by kernel_rfl) (by kernel_rfl) (by kernel_rfl)]
  rfl

set_option maxRecDepth 100000 in
set_option maxHeartbeats 400000 in
/-- slog.BoolValue. -/
theorem c_bool_t  (w : World) : Calls Tryz.prog 123 #[.bool true] w fun e w' => e = .returned (.agg #[.int .u64 1, .iface 198 (.int .i64 1)]) ∧ Below w.heap.size w w' := by
  go_enter Tryz.func123, Tryz.ntmps123
  go_wp2
  all_goals exact bodyPost_ret (v := .agg #[.int .u64 1, .iface 198 (.int .i64 1)]) (by simp [results, Tryz.results123, go_sem]) rfl ⟨rfl, (by repeat' (first | with_reducible assumption | with_reducible exact Below.refl _ _ | with_reducible refine Below.setCell ?_ ?_ _ | with_reducible refine Below.alloc ?_ ?_ _ | with_reducible refine Below.drew ?_ | with_reducible refine below_drewN ?_ _ | omega | (simp; done) | (simp; omega)))⟩

set_option maxRecDepth 100000 in
set_option maxHeartbeats 400000 in
/-- slog.BoolValue. -/
theorem c_bool_f  (w : World) : Calls Tryz.prog 123 #[.bool false] w fun e w' => e = .returned (.agg #[.int .u64 0, .iface 198 (.int .i64 1)]) ∧ Below w.heap.size w w' := by
  go_enter Tryz.func123, Tryz.ntmps123
  go_wp2
  all_goals exact bodyPost_ret (v := .agg #[.int .u64 0, .iface 198 (.int .i64 1)]) (by simp [results, Tryz.results123, go_sem]) rfl ⟨rfl, (by repeat' (first | with_reducible assumption | with_reducible exact Below.refl _ _ | with_reducible refine Below.setCell ?_ ?_ _ | with_reducible refine Below.alloc ?_ ?_ _ | with_reducible refine Below.drew ?_ | with_reducible refine below_drewN ?_ _ | omega | (simp; done) | (simp; omega)))⟩

set_option maxRecDepth 100000 in
set_option maxHeartbeats 400000 in
/-- slog.Int64Value. -/
theorem c_int (n : Int) (w : World) : Calls Tryz.prog 127 #[.int .i64 n] w fun e w' => e = .returned (.agg #[.int .u64 (IntKind.u64.wrap n), .iface 198 (.int .i64 4)]) ∧ Below w.heap.size w w' := by
  go_enter Tryz.func127, Tryz.ntmps127
  go_wp2
  all_goals exact bodyPost_ret (v := .agg #[.int .u64 (IntKind.u64.wrap n), .iface 198 (.int .i64 4)]) (by simp [results, Tryz.results127, go_sem]) rfl ⟨rfl, (by repeat' (first | with_reducible assumption | with_reducible exact Below.refl _ _ | with_reducible refine Below.setCell ?_ ?_ _ | with_reducible refine Below.alloc ?_ ?_ _ | with_reducible refine Below.drew ?_ | with_reducible refine below_drewN ?_ _ | omega | (simp; done) | (simp; omega)))⟩

set_option maxRecDepth 100000 in
set_option maxHeartbeats 400000 in
/-- slog.Uint64Value. -/
theorem c_uint (n : Int) (w : World) : Calls Tryz.prog 130 #[.int .u64 n] w fun e w' => e = .returned (.agg #[.int .u64 n, .iface 198 (.int .i64 7)]) ∧ Below w.heap.size w w' := by
  go_enter Tryz.func130, Tryz.ntmps130
  go_wp2
  all_goals exact bodyPost_ret (v := .agg #[.int .u64 n, .iface 198 (.int .i64 7)]) (by simp [results, Tryz.results130, go_sem]) rfl ⟨rfl, (by repeat' (first | with_reducible assumption | with_reducible exact Below.refl _ _ | with_reducible refine Below.setCell ?_ ?_ _ | with_reducible refine Below.alloc ?_ ?_ _ | with_reducible refine Below.drew ?_ | with_reducible refine below_drewN ?_ _ | omega | (simp; done) | (simp; omega)))⟩

set_option maxRecDepth 100000 in
set_option maxHeartbeats 400000 in
/-- slog.Float64Value. -/
theorem c_float (n : Nat) (w : World) : Calls Tryz.prog 125 #[.float .f64 n] w fun e w' => e = .returned (.agg #[.int .u64 n, .iface 198 (.int .i64 3)]) ∧ Below w.heap.size w w' := by
  have h1 := bits_run
  go_enter Tryz.func125, Tryz.ntmps125
  go_wp2
  all_goals exact bodyPost_ret (v := .agg #[.int .u64 n, .iface 198 (.int .i64 3)]) (by simp [results, Tryz.results125, go_sem]) rfl ⟨rfl, (by repeat' (first | with_reducible assumption | with_reducible exact Below.refl _ _ | with_reducible refine Below.setCell ?_ ?_ _ | with_reducible refine Below.alloc ?_ ?_ _ | with_reducible refine Below.drew ?_ | with_reducible refine below_drewN ?_ _ | omega | (simp; done) | (simp; omega)))⟩

set_option maxRecDepth 100000 in
set_option maxHeartbeats 400000 in
/-- slog.StringValue. -/
theorem c_str (s : ByteArray) (hs : s.size ≤ 140737488355328) (w : World) : Calls Tryz.prog 128 #[.string s] w fun e w' => e = .returned (.agg #[.int .u64 s.size, .iface 230 (.string s)]) ∧ Below w.heap.size w w' := by
  go_enter Tryz.func128, Tryz.ntmps128
  go_wp2
  all_goals exact bodyPost_ret (v := .agg #[.int .u64 s.size, .iface 230 (.string s)]) (by simp [results, Tryz.results128, go_sem]) rfl ⟨rfl, (by repeat' (first | with_reducible assumption | with_reducible exact Below.refl _ _ | with_reducible refine Below.setCell ?_ ?_ _ | with_reducible refine Below.alloc ?_ ?_ _ | with_reducible refine Below.drew ?_ | with_reducible refine below_drewN ?_ _ | omega | (simp; done) | (simp; omega)))⟩

set_option maxRecDepth 100000 in
set_option maxHeartbeats 400000 in
/-- (slog.ZzDuration).Nanoseconds. -/
theorem c_nanos (n : Int) (w : World) : Calls Tryz.prog 160 #[.int .i64 n] w fun e w' => e = .returned (.int .i64 n) ∧ Below w.heap.size w w' := by
  go_enter Tryz.func160, Tryz.ntmps160
  go_wp2
  go_ret
  exact ⟨rfl, (by repeat' (first | with_reducible assumption | with_reducible exact Below.refl _ _ | with_reducible refine Below.setCell ?_ ?_ _ | with_reducible refine Below.alloc ?_ ?_ _ | with_reducible refine Below.drew ?_ | with_reducible refine below_drewN ?_ _ | omega | (simp; done) | (simp; omega)))⟩

set_option maxRecDepth 100000 in
set_option maxHeartbeats 400000 in
/-- slog.DurationValue. -/
theorem c_dur (n : Int) (w : World) : Calls Tryz.prog 124 #[.int .i64 n] w fun e w' => e = .returned (.agg #[.int .u64 (IntKind.u64.wrap n), .iface 198 (.int .i64 2)]) ∧ Below w.heap.size w w' := by
  go_enter Tryz.func124, Tryz.ntmps124
  go_wp2
  all_goals exact bodyPost_ret (v := .agg #[.int .u64 (IntKind.u64.wrap n), .iface 198 (.int .i64 2)]) (by simp [results, Tryz.results124, go_sem]) rfl ⟨rfl, (by repeat' (first | with_reducible assumption | with_reducible exact Below.refl _ _ | with_reducible refine Below.setCell ?_ ?_ _ | with_reducible refine Below.alloc ?_ ?_ _ | with_reducible refine Below.drew ?_ | with_reducible refine below_drewN ?_ _ | omega | (simp; done) | (simp; omega)))⟩

set_option maxRecDepth 100000 in
set_option maxHeartbeats 400000 in
/-- (slog.ZzTime).Round. -/
theorem c_round (a b c : Int) (z : ByteArray) (w : World) : Calls Tryz.prog 161 #[.agg #[.int .i64 a, .int .i64 b, .int .i64 c, .string z], .int .i64 0] w fun e w' => e = .returned (.agg #[.int .i64 a, .int .i64 b, .int .i64 c, .string z]) ∧ Below w.heap.size w w' := by
  go_enter Tryz.func161, Tryz.ntmps161
  go_wp2
  all_goals exact bodyPost_ret (v := .agg #[.int .i64 a, .int .i64 b, .int .i64 c, .string z]) (by simp [results, Tryz.results161, go_sem]) rfl ⟨rfl, (by repeat' (first | with_reducible assumption | with_reducible exact Below.refl _ _ | with_reducible refine Below.setCell ?_ ?_ _ | with_reducible refine Below.alloc ?_ ?_ _ | with_reducible refine Below.drew ?_ | with_reducible refine below_drewN ?_ _ | omega | (simp; done) | (simp; omega)))⟩

set_option maxRecDepth 100000 in
set_option maxHeartbeats 400000 in
/-- slog.TimeValue. -/
theorem c_time (a b c : Int) (z : ByteArray) (w : World) : Calls Tryz.prog 129 #[.agg #[.int .i64 a, .int .i64 b, .int .i64 c, .string z]] w fun e w' => e = .returned (.agg #[.int .u64 0, .iface 243 (.agg #[.int .i64 a, .int .i64 b, .int .i64 c, .string z])]) ∧ Below w.heap.size w w' := by
  go_enter Tryz.func129, Tryz.ntmps129
  go_wp2_with (go_at_call 161; refine (c_round a b c z _).mono ?_; rintro e w2 ⟨rfl, hb2⟩; have hB2 := keeps_below (show Below w.heap.size w _ from (by repeat' (first | with_reducible assumption | with_reducible exact Below.refl _ _ | with_reducible refine Below.setCell ?_ ?_ _ | with_reducible refine Below.alloc ?_ ?_ _ | with_reducible refine Below.drew ?_ | with_reducible refine below_drewN ?_ _ | omega | (simp; done) | (simp; omega)))) hb2; obtain ⟨hc2, hf2⟩ := bcell hb2)
  all_goals exact bodyPost_ret (v := .agg #[.int .u64 0, .iface 243 (.agg #[.int .i64 a, .int .i64 b, .int .i64 c, .string z])]) (by simp [results, Tryz.results129, go_sem, hc2, hf2]) rfl ⟨rfl, (by repeat' (first | with_reducible assumption | with_reducible exact Below.refl _ _ | with_reducible refine Below.setCell ?_ ?_ _ | with_reducible refine Below.alloc ?_ ?_ _ | with_reducible refine Below.drew ?_ | with_reducible refine below_drewN ?_ _ | omega | (simp; done) | (simp; omega)))⟩

set_option maxRecDepth 100000 in
set_option maxHeartbeats 400000 in
/-- impl.timeOf. -/
theorem c_timeOf (t : GTime) (w : World) : Calls Tryz.prog 63 #[.agg #[.int .i64 t.sec, .int .i64 t.nsec, .int .i64 t.off]] w fun e w' => e = .returned (.agg #[.int .i64 t.sec, .int .i64 t.nsec, .int .i64 t.off, .string (zone t)]) ∧ Below w.heap.size w w' := by
  unfold zone
  by_cases hz : t.off = 0
  all_goals simp only [hz, if_true, if_false, ite_true, ite_false]
  · go_enter Tryz.func63, Tryz.ntmps63
    go_wp2
    all_goals exact bodyPost_ret (v := .agg #[.int .i64 t.sec, .int .i64 t.nsec, .int .i64 0, .string ⟨#[85, 84, 67]⟩]) (by simp [results, Tryz.results63, go_sem]) rfl ⟨rfl, (by repeat' (first | with_reducible assumption | with_reducible exact Below.refl _ _ | with_reducible refine Below.setCell ?_ ?_ _ | with_reducible refine Below.alloc ?_ ?_ _ | with_reducible refine Below.drew ?_ | with_reducible refine below_drewN ?_ _ | omega | (simp; done) | (simp; omega)))⟩
  · go_enter Tryz.func63, Tryz.ntmps63
    go_wp2
    all_goals exact bodyPost_ret (v := .agg #[.int .i64 t.sec, .int .i64 t.nsec, .int .i64 t.off, .string ByteArray.empty]) (by simp [results, Tryz.results63, go_sem]; try rfl) rfl ⟨rfl, (by repeat' (first | with_reducible assumption | with_reducible exact Below.refl _ _ | with_reducible refine Below.setCell ?_ ?_ _ | with_reducible refine Below.alloc ?_ ?_ _ | with_reducible refine Below.drew ?_ | with_reducible refine below_drewN ?_ _ | omega | (simp; done) | (simp; omega)))⟩

end Go.Proofs.YtihhgnbgejjijaaGreatDoor.Va

/- The constructors of package slog: the walks. -/
import Derived.Test.YtcgdnjigocknbaaDoorKind
import Derived.Laws.Externs
namespace Go.Proofs.YtcgdnjigocknbaaDoor.Va
set_option linter.unusedVariables false
set_option linter.unusedSimpArgs false
open Go Go.RowKit

theorem bits_run (m : Nat) (w : World) : (callFunc 64 #[.float .f64 m]).run Tryd.prog w = .ok (.value (.int .u64 m)) w := by
  rw [run_callFunc_extern (fn := Tryd.f64) (e := Extern.MathFloatBits.float64bits) (by kernel_rfl) (by kernel_rfl) (by kernel_rfl) (by kernel_rfl) (by kernel_rfl)]
  rfl

set_option maxRecDepth 100000 in
set_option maxHeartbeats 400000 in
/-- slog.BoolValue. -/
theorem c_bool_t  (w : World) : Calls Tryd.prog 41 #[.bool true] w fun e w' => e = .returned (.agg #[.int .u64 1, .iface 90 (.int .i64 1)]) ∧ Below w.heap.size w w' := by
  go_enter Tryd.func41, Tryd.ntmps41
  go_wp2
  all_goals exact bodyPost_ret (v := .agg #[.int .u64 1, .iface 90 (.int .i64 1)]) (by simp [results, Tryd.results41, go_sem]) rfl ⟨rfl, (by repeat' (first | with_reducible assumption | with_reducible exact Below.refl _ _ | with_reducible refine Below.setCell ?_ ?_ _ | with_reducible refine Below.alloc ?_ ?_ _ | with_reducible refine Below.drew ?_ | with_reducible refine below_drewN ?_ _ | omega | (simp; done) | (simp; omega)))⟩

set_option maxRecDepth 100000 in
set_option maxHeartbeats 400000 in
/-- slog.BoolValue. -/
theorem c_bool_f  (w : World) : Calls Tryd.prog 41 #[.bool false] w fun e w' => e = .returned (.agg #[.int .u64 0, .iface 90 (.int .i64 1)]) ∧ Below w.heap.size w w' := by
  go_enter Tryd.func41, Tryd.ntmps41
  go_wp2
  all_goals exact bodyPost_ret (v := .agg #[.int .u64 0, .iface 90 (.int .i64 1)]) (by simp [results, Tryd.results41, go_sem]) rfl ⟨rfl, (by repeat' (first | with_reducible assumption | with_reducible exact Below.refl _ _ | with_reducible refine Below.setCell ?_ ?_ _ | with_reducible refine Below.alloc ?_ ?_ _ | with_reducible refine Below.drew ?_ | with_reducible refine below_drewN ?_ _ | omega | (simp; done) | (simp; omega)))⟩

set_option maxRecDepth 100000 in
set_option maxHeartbeats 400000 in
/-- slog.Int64Value. -/
theorem c_int (n : Int) (w : World) : Calls Tryd.prog 44 #[.int .i64 n] w fun e w' => e = .returned (.agg #[.int .u64 (IntKind.u64.wrap n), .iface 90 (.int .i64 4)]) ∧ Below w.heap.size w w' := by
  go_enter Tryd.func44, Tryd.ntmps44
  go_wp2
  all_goals exact bodyPost_ret (v := .agg #[.int .u64 (IntKind.u64.wrap n), .iface 90 (.int .i64 4)]) (by simp [results, Tryd.results44, go_sem]) rfl ⟨rfl, (by repeat' (first | with_reducible assumption | with_reducible exact Below.refl _ _ | with_reducible refine Below.setCell ?_ ?_ _ | with_reducible refine Below.alloc ?_ ?_ _ | with_reducible refine Below.drew ?_ | with_reducible refine below_drewN ?_ _ | omega | (simp; done) | (simp; omega)))⟩

set_option maxRecDepth 100000 in
set_option maxHeartbeats 400000 in
/-- slog.Uint64Value. -/
theorem c_uint (n : Int) (w : World) : Calls Tryd.prog 48 #[.int .u64 n] w fun e w' => e = .returned (.agg #[.int .u64 n, .iface 90 (.int .i64 7)]) ∧ Below w.heap.size w w' := by
  go_enter Tryd.func48, Tryd.ntmps48
  go_wp2
  all_goals exact bodyPost_ret (v := .agg #[.int .u64 n, .iface 90 (.int .i64 7)]) (by simp [results, Tryd.results48, go_sem]) rfl ⟨rfl, (by repeat' (first | with_reducible assumption | with_reducible exact Below.refl _ _ | with_reducible refine Below.setCell ?_ ?_ _ | with_reducible refine Below.alloc ?_ ?_ _ | with_reducible refine Below.drew ?_ | with_reducible refine below_drewN ?_ _ | omega | (simp; done) | (simp; omega)))⟩

set_option maxRecDepth 100000 in
set_option maxHeartbeats 400000 in
/-- slog.Float64Value. -/
theorem c_float (n : Nat) (w : World) : Calls Tryd.prog 43 #[.float .f64 n] w fun e w' => e = .returned (.agg #[.int .u64 n, .iface 90 (.int .i64 3)]) ∧ Below w.heap.size w w' := by
  have h1 := bits_run
  go_enter Tryd.func43, Tryd.ntmps43
  go_wp2
  all_goals exact bodyPost_ret (v := .agg #[.int .u64 n, .iface 90 (.int .i64 3)]) (by simp [results, Tryd.results43, go_sem]) rfl ⟨rfl, (by repeat' (first | with_reducible assumption | with_reducible exact Below.refl _ _ | with_reducible refine Below.setCell ?_ ?_ _ | with_reducible refine Below.alloc ?_ ?_ _ | with_reducible refine Below.drew ?_ | with_reducible refine below_drewN ?_ _ | omega | (simp; done) | (simp; omega)))⟩

set_option maxRecDepth 100000 in
set_option maxHeartbeats 400000 in
/-- slog.StringValue. -/
theorem c_str (s : ByteArray) (hs : s.size ≤ 140737488355328) (w : World) : Calls Tryd.prog 45 #[.string s] w fun e w' => e = .returned (.agg #[.int .u64 s.size, .iface 99 (.string s)]) ∧ Below w.heap.size w w' := by
  go_enter Tryd.func45, Tryd.ntmps45
  go_wp2
  all_goals exact bodyPost_ret (v := .agg #[.int .u64 s.size, .iface 99 (.string s)]) (by simp [results, Tryd.results45, go_sem]) rfl ⟨rfl, (by repeat' (first | with_reducible assumption | with_reducible exact Below.refl _ _ | with_reducible refine Below.setCell ?_ ?_ _ | with_reducible refine Below.alloc ?_ ?_ _ | with_reducible refine Below.drew ?_ | with_reducible refine below_drewN ?_ _ | omega | (simp; done) | (simp; omega)))⟩

set_option maxRecDepth 100000 in
set_option maxHeartbeats 400000 in
/-- (slog.ZzDuration).Nanoseconds. -/
theorem c_nanos (n : Int) (w : World) : Calls Tryd.prog 63 #[.int .i64 n] w fun e w' => e = .returned (.int .i64 n) ∧ Below w.heap.size w w' := by
  go_enter Tryd.func63, Tryd.ntmps63
  go_wp2
  go_ret
  exact ⟨rfl, (by repeat' (first | with_reducible assumption | with_reducible exact Below.refl _ _ | with_reducible refine Below.setCell ?_ ?_ _ | with_reducible refine Below.alloc ?_ ?_ _ | with_reducible refine Below.drew ?_ | with_reducible refine below_drewN ?_ _ | omega | (simp; done) | (simp; omega)))⟩

set_option maxRecDepth 100000 in
set_option maxHeartbeats 400000 in
/-- slog.DurationValue. -/
theorem c_dur (n : Int) (w : World) : Calls Tryd.prog 42 #[.int .i64 n] w fun e w' => e = .returned (.agg #[.int .u64 (IntKind.u64.wrap n), .iface 90 (.int .i64 2)]) ∧ Below w.heap.size w w' := by
  go_enter Tryd.func42, Tryd.ntmps42
  go_wp2
  all_goals exact bodyPost_ret (v := .agg #[.int .u64 (IntKind.u64.wrap n), .iface 90 (.int .i64 2)]) (by simp [results, Tryd.results42, go_sem]) rfl ⟨rfl, (by repeat' (first | with_reducible assumption | with_reducible exact Below.refl _ _ | with_reducible refine Below.setCell ?_ ?_ _ | with_reducible refine Below.alloc ?_ ?_ _ | with_reducible refine Below.drew ?_ | with_reducible refine below_drewN ?_ _ | omega | (simp; done) | (simp; omega)))⟩

set_option maxRecDepth 100000 in
set_option maxHeartbeats 400000 in
/-- (slog.ZzTime).Round. -/
theorem c_round (a b c : Int) (z : ByteArray) (w : World) : Calls Tryd.prog 65 #[.agg #[.int .i64 a, .int .i64 b, .int .i64 c, .string z], .int .i64 0] w fun e w' => e = .returned (.agg #[.int .i64 a, .int .i64 b, .int .i64 c, .string z]) ∧ Below w.heap.size w w' := by
  go_enter Tryd.func65, Tryd.ntmps65
  go_wp2
  all_goals exact bodyPost_ret (v := .agg #[.int .i64 a, .int .i64 b, .int .i64 c, .string z]) (by simp [results, Tryd.results65, go_sem]) rfl ⟨rfl, (by repeat' (first | with_reducible assumption | with_reducible exact Below.refl _ _ | with_reducible refine Below.setCell ?_ ?_ _ | with_reducible refine Below.alloc ?_ ?_ _ | with_reducible refine Below.drew ?_ | with_reducible refine below_drewN ?_ _ | omega | (simp; done) | (simp; omega)))⟩

set_option maxRecDepth 100000 in
set_option maxHeartbeats 400000 in
/-- slog.TimeValue. -/
theorem c_time (a b c : Int) (z : ByteArray) (w : World) : Calls Tryd.prog 46 #[.agg #[.int .i64 a, .int .i64 b, .int .i64 c, .string z]] w fun e w' => e = .returned (.agg #[.int .u64 0, .iface 100 (.agg #[.int .i64 a, .int .i64 b, .int .i64 c, .string z])]) ∧ Below w.heap.size w w' := by
  go_enter Tryd.func46, Tryd.ntmps46
  go_wp2_with (go_at_call 65; refine (c_round a b c z _).mono ?_; rintro e w2 ⟨rfl, hb2⟩; have hB2 := keeps_below (show Below w.heap.size w _ from (by repeat' (first | with_reducible assumption | with_reducible exact Below.refl _ _ | with_reducible refine Below.setCell ?_ ?_ _ | with_reducible refine Below.alloc ?_ ?_ _ | with_reducible refine Below.drew ?_ | with_reducible refine below_drewN ?_ _ | omega | (simp; done) | (simp; omega)))) hb2; obtain ⟨hc2, hf2⟩ := bcell hb2)
  all_goals exact bodyPost_ret (v := .agg #[.int .u64 0, .iface 100 (.agg #[.int .i64 a, .int .i64 b, .int .i64 c, .string z])]) (by simp [results, Tryd.results46, go_sem, hc2, hf2]) rfl ⟨rfl, (by repeat' (first | with_reducible assumption | with_reducible exact Below.refl _ _ | with_reducible refine Below.setCell ?_ ?_ _ | with_reducible refine Below.alloc ?_ ?_ _ | with_reducible refine Below.drew ?_ | with_reducible refine below_drewN ?_ _ | omega | (simp; done) | (simp; omega)))⟩

set_option maxRecDepth 100000 in
set_option maxHeartbeats 400000 in
/-- impl.timeOf. -/
theorem c_timeOf (t : GTime) (w : World) : Calls Tryd.prog 47 #[.agg #[.int .i64 t.sec, .int .i64 t.nsec, .int .i64 t.off]] w fun e w' => e = .returned (.agg #[.int .i64 t.sec, .int .i64 t.nsec, .int .i64 t.off, .string (zone t)]) ∧ Below w.heap.size w w' := by
  unfold zone
  by_cases hz : t.off = 0
  all_goals simp only [hz, if_true, if_false, ite_true, ite_false]
  · go_enter Tryd.func47, Tryd.ntmps47
    go_wp2
    all_goals exact bodyPost_ret (v := .agg #[.int .i64 t.sec, .int .i64 t.nsec, .int .i64 0, .string ⟨#[85, 84, 67]⟩]) (by simp [results, Tryd.results47, go_sem]) rfl ⟨rfl, (by repeat' (first | with_reducible assumption | with_reducible exact Below.refl _ _ | with_reducible refine Below.setCell ?_ ?_ _ | with_reducible refine Below.alloc ?_ ?_ _ | with_reducible refine Below.drew ?_ | with_reducible refine below_drewN ?_ _ | omega | (simp; done) | (simp; omega)))⟩
  · go_enter Tryd.func47, Tryd.ntmps47
    go_wp2
    all_goals exact bodyPost_ret (v := .agg #[.int .i64 t.sec, .int .i64 t.nsec, .int .i64 t.off, .string ByteArray.empty]) (by simp [results, Tryd.results47, go_sem]; try rfl) rfl ⟨rfl, (by repeat' (first | with_reducible assumption | with_reducible exact Below.refl _ _ | with_reducible refine Below.setCell ?_ ?_ _ | with_reducible refine Below.alloc ?_ ?_ _ | with_reducible refine Below.drew ?_ | with_reducible refine below_drewN ?_ _ | omega | (simp; done) | (simp; omega)))⟩

end Go.Proofs.YtcgdnjigocknbaaDoor.Va

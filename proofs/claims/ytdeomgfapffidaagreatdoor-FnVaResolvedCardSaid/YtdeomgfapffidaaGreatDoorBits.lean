/- The bits of a float, and the time that a value of package slog holds. -/
import Derived.Test.YtdeomgfapffidaaGreatDoorSMem
import Derived.Laws.Externs
namespace Go.Proofs.YtdeomgfapffidaaGreatDoor.Va
set_option linter.unusedVariables false
set_option linter.unusedSimpArgs false
open Go Go.RowKit

theorem frombits_run (m : Int) (w : World) : (callFunc 85 #[.int .u64 m]).run Tryz.prog w = .ok (.value (.float .f64 m.toNat)) w := by
  rw [run_callFunc_extern (fn := Tryz.f85) (e := Extern.MathFloatBits.float64frombits) (by kernel_rfl) (by kernel_rfl) (by kernel_rfl) (by kernel_rfl) (by kernel_rfl)]
  rfl

set_option maxRecDepth 100000 in
set_option maxHeartbeats 400000 in
theorem time_any (i a b c : Int) (z : ByteArray) (w : World) : Calls Tryz.prog 101 #[.agg #[.int .u64 i, .iface 198 (.agg #[.int .i64 a, .int .i64 b, .int .i64 c, .string z])]] w fun e w' => e = .returned (.agg #[.int .i64 a, .int .i64 b, .int .i64 c, .string z]) ∧ Below w.heap.size w w' := by
  go_enter Tryz.func101, Tryz.ntmps101
  go_wp2
  refine bodyPost_ret (v := .agg #[.int .i64 a, .int .i64 b, .int .i64 c, .string z]) (by simp [results, Tryz.results101, go_sem]) rfl ⟨rfl, (by repeat' (first | with_reducible assumption | with_reducible exact Below.refl _ _ | with_reducible refine Below.setCell ?_ ?_ _ | with_reducible refine Below.alloc ?_ ?_ _ | with_reducible refine Below.drew ?_ | with_reducible refine below_drewN ?_ _ | omega | (simp; done) | (simp; omega)))⟩


end Go.Proofs.YtdeomgfapffidaaGreatDoor.Va

/- The test of size that stands ahead of a statement over Attrs: the walk. -/
import Derived.Test.YtcgdnjigocknbaaDoorFits
namespace Go.Proofs.YtcgdnjigocknbaaDoor.Va
set_option linter.unusedVariables false
set_option linter.unusedSimpArgs false
open Go Go.RowKit

def fits4 (key : ByteArray) : Bool := decide (key.size ≤ 2147483647)
theorem fits4_any (key : ByteArray) (d : GVal) (w : World) (A : Option Addr) (len cap : Nat) (hk : key.size ≤ 140737488355328) :
    Calls Tryd.prog 12 #[.agg #[.string key, .int .i64 d.kind, .int .u64 d.n, .string d.s, .int .i64 d.t.sec, .int .i64 d.t.nsec, .int .i64 d.t.off, .slice A len cap]] w fun e w' => e = .returned (.bool (fits4 key)) ∧ Below w.heap.size w w' := by
  by_cases h1 : 2147483647 < key.size
  · have g1 : (2147483647 : Int) < (key.size : Int) := by omega
    go_enter Tryd.func12, Tryd.ntmps12
    go_wp2
    go_ret
    exact ⟨ret_bool (by unfold fits4; rw [decide_eq_false (by omega)]), (by repeat' (first | with_reducible assumption | with_reducible exact Below.refl _ _ | with_reducible refine Below.setCell ?_ ?_ _ | with_reducible refine Below.alloc ?_ ?_ _ | with_reducible refine Below.drew ?_ | with_reducible refine below_drewN ?_ _ | omega | (simp; done) | (simp; omega)))⟩
  · have g1 : ¬ (2147483647 : Int) < (key.size : Int) := by omega
    go_enter Tryd.func12, Tryd.ntmps12
    go_wp2
    go_ret
    exact ⟨ret_bool (by unfold fits4; rw [decide_eq_true (by omega)]), (by repeat' (first | with_reducible assumption | with_reducible exact Below.refl _ _ | with_reducible refine Below.setCell ?_ ?_ _ | with_reducible refine Below.alloc ?_ ?_ _ | with_reducible refine Below.drew ?_ | with_reducible refine below_drewN ?_ _ | omega | (simp; done) | (simp; omega)))⟩

end Go.Proofs.YtcgdnjigocknbaaDoor.Va

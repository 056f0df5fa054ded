/- What impl.told tells of an error of package errors. -/
import Derived.Test.YtdeomgfapffidaaGreatDoorToldV
import Derived.Test.YtdeomgfapffidaaGreatDoorRes2
namespace Go.Proofs.YtdeomgfapffidaaGreatDoor.Va
set_option linter.unusedVariables false
set_option linter.unusedSimpArgs false
open Go Go.RowKit

theorem meth_err (k : Nat) (v : Value) (w : World) : (method (k + 1) 205 v "Error").run Tryz.prog w = .ok (225, v) w := by kernel_rfl

set_option maxRecDepth 100000 in
set_option maxHeartbeats 400000 in
theorem kind_err (v : Value) (w : World) : Calls Tryz.prog 70 #[.agg #[.int .u64 0, .iface 205 v]] w fun e w' => e = .returned (.int .i64 0) ∧ Below w.heap.size w w' := by
  go_enter Tryz.func70, Tryz.ntmps70
  go_wp2
  go_ret
  exact ⟨rfl, (by repeat' (first | with_reducible assumption | with_reducible exact Below.refl _ _ | with_reducible refine Below.setCell ?_ ?_ _ | with_reducible refine Below.alloc ?_ ?_ _ | with_reducible refine Below.drew ?_ | with_reducible refine below_drewN ?_ _ | omega | (simp; done) | (simp; omega)))⟩

set_option maxRecDepth 100000 in
set_option maxHeartbeats 400000 in
theorem any_err (v : Value) (w : World) : Calls Tryz.prog 48 #[.agg #[.int .u64 0, .iface 205 v]] w fun e w' => e = .returned (.iface 205 v) ∧ Below w.heap.size w w' := by
  go_enter Tryz.func48, Tryz.ntmps48
  go_wp2_with (first
    | (go_at_call 70; (with_reducible refine (kind_err v _).mono ?_); rintro e w1 ⟨rfl, hb1⟩; have hB1 := keeps_below (show Below w.heap.size w _ from (by repeat' (first | with_reducible assumption | with_reducible exact Below.refl _ _ | with_reducible refine Below.setCell ?_ ?_ _ | with_reducible refine Below.alloc ?_ ?_ _ | with_reducible refine Below.drew ?_ | with_reducible refine below_drewN ?_ _ | omega | (simp; done) | (simp; omega)))) hb1; obtain ⟨hc1, hf1⟩ := bcell hb1; have hz1 := hb1.size; (try simp at hz1); have e10 : w.heap.size < w1.heap.size := (by omega)))
  go_wp2
  go_ret
  exact ⟨rfl, hB1⟩

set_option maxRecDepth 100000 in
set_option maxHeartbeats 400000 in
theorem error_any (b : Nat) (s : ByteArray) (w : World) (hc : w.cell? ⟨b, 0, none⟩ = some (.string s)) : Calls Tryz.prog 225 #[.pointer (some ⟨b, 0, none⟩)] w fun e w' => e = .returned (.string s) ∧ w = w' := by
  go_enter Tryz.func225, Tryz.ntmps225
  go_wp2
  go_ret
  exact ⟨rfl, rfl⟩

set_option maxRecDepth 100000 in
set_option maxHeartbeats 1000000 in
theorem told_err (s : ByteArray) (b : Nat) (w : World) (hc : w.cell? ⟨b, 0, none⟩ = some (.string s)) : Calls Tryz.prog 44 #[.agg #[.int .u64 0, .iface 205 (.pointer (some ⟨b, 0, none⟩))]] w (TidyPost (.mk 0 1 s .zero .nil) w) := by
  unfold TidyPost
  have me := meth_err
  have HC := Lib.hid hc
  clear hc
  go_enter Tryz.func44, Tryz.ntmps44
  go_wp2_with (first
    | (go_at_call 70; (with_reducible refine (kind_err _ _).mono ?_); rintro e w1 ⟨rfl, hb1⟩; have hB1 := keeps_below (show Below w.heap.size w _ from (by repeat' (first | with_reducible assumption | with_reducible exact Below.refl _ _ | with_reducible refine Below.setCell ?_ ?_ _ | with_reducible refine Below.alloc ?_ ?_ _ | with_reducible refine Below.drew ?_ | with_reducible refine below_drewN ?_ _ | omega | (simp; done) | (simp; omega)))) hb1; obtain ⟨hc1, hf1⟩ := bcell hb1; have hz1 := hb1.size; (try simp at hz1); have e10 : w.heap.size < w1.heap.size := (by omega); have e11 : w.heap.size + 1 < w1.heap.size := (by omega))
    | (go_at_call 48; (with_reducible refine (any_err _ _).mono ?_); rintro e w2 ⟨rfl, hb2⟩; have hB2 := keeps_below hB1 hb2; obtain ⟨hc2, hf2⟩ := bcell hb2; have e20 : w.heap.size < w2.heap.size := Nat.lt_of_lt_of_le e10 hb2.size; have e21 : w.heap.size + 1 < w2.heap.size := Nat.lt_of_lt_of_le e11 hb2.size)
    | (go_at_call 225; refine (error_any b s _ ((keeps_of_below hB2).cell HC.out)).mono ?_; rintro e w3 ⟨rfl, rfl⟩))
  exact bodyPost_ret (v := vVal (.mk 0 1 s .zero .nil) none 0 0) (by simp [results, Tryz.results44, go_sem, hc1, hf1, e10, e11, hc2, hf2, e20, e21, GVal.zero, GTime.zero]; try rfl) rfl ⟨none, 0, 0, rfl, RSP.nil_ _ _ _, below_set7 hB2 (by omega) _ _ _ _ _ _ _⟩

end Go.Proofs.YtdeomgfapffidaaGreatDoor.Va

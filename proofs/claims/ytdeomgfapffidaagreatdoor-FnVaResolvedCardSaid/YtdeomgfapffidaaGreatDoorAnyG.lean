/- What Value.Any gives of a Go value. -/
import Derived.Test.YtdeomgfapffidaaGreatDoorAccF
namespace Go.Proofs.YtdeomgfapffidaaGreatDoor.Va
set_option linter.unusedVariables false
set_option linter.unusedSimpArgs false
open Go Go.RowKit

/-- The Go value that is held. -/
def outOf : GAny → Value → Value
  | .kind n, _ => .iface 125 (.int .i64 n)
  | _, y => y

set_option maxRecDepth 100000 in
set_option maxHeartbeats 1000000 in
theorem anyG_any {P : Nat → Prop} (g : GAny) (w : World) (x y : Value) (h : RSV P w (.any g) x y) : Calls Tryz.prog 48 #[.agg #[x, y]] w fun e w' => e = .returned (outOf g y) ∧ Below w.heap.size w w' := by
  have cK := fun wx (hx : Keeps w wx) => kind_any (.any g) wx _ _ (h.keep hx)
  simp only [SVal.kind] at cK
  have CK := Lib.hid cK
  clear cK
  unfold RSV at h
  obtain ⟨rfl, h⟩ := h
  cases g <;> simp only [RAny] at h
  case bytes => obtain ⟨A, len, cap, rfl, hz⟩ := h; clear hz; go_enter Tryz.func48, Tryz.ntmps48; go_wp2_with (first | (go_at_call 70; (with_reducible refine (CK.out _ (keeps_of_below (by repeat' (first | with_reducible assumption | with_reducible exact Below.refl _ _ | with_reducible refine Below.setCell ?_ ?_ _ | with_reducible refine Below.alloc ?_ ?_ _ | with_reducible refine Below.drew ?_ | with_reducible refine below_drewN ?_ _ | omega | (simp; done) | (simp; omega))))).mono ?_); rintro e w1 ⟨rfl, hb1⟩; have hB1 := keeps_below (show Below w.heap.size w _ from (by repeat' (first | with_reducible assumption | with_reducible exact Below.refl _ _ | with_reducible refine Below.setCell ?_ ?_ _ | with_reducible refine Below.alloc ?_ ?_ _ | with_reducible refine Below.drew ?_ | with_reducible refine below_drewN ?_ _ | omega | (simp; done) | (simp; omega)))) hb1; obtain ⟨hc1, hf1⟩ := bcell hb1; have hz1 := hb1.size; (try simp at hz1); have e10 : w.heap.size < w1.heap.size := (by omega); (try have e11 : w.heap.size + 1 < w1.heap.size := (by omega)))); go_wp2; go_ret; exact ⟨rfl, hB1⟩
  case source => obtain ⟨b, rfl, hz⟩ := h; clear hz; go_enter Tryz.func48, Tryz.ntmps48; go_wp2_with (first | (go_at_call 70; (with_reducible refine (CK.out _ (keeps_of_below (by repeat' (first | with_reducible assumption | with_reducible exact Below.refl _ _ | with_reducible refine Below.setCell ?_ ?_ _ | with_reducible refine Below.alloc ?_ ?_ _ | with_reducible refine Below.drew ?_ | with_reducible refine below_drewN ?_ _ | omega | (simp; done) | (simp; omega))))).mono ?_); rintro e w1 ⟨rfl, hb1⟩; have hB1 := keeps_below (show Below w.heap.size w _ from (by repeat' (first | with_reducible assumption | with_reducible exact Below.refl _ _ | with_reducible refine Below.setCell ?_ ?_ _ | with_reducible refine Below.alloc ?_ ?_ _ | with_reducible refine Below.drew ?_ | with_reducible refine below_drewN ?_ _ | omega | (simp; done) | (simp; omega)))) hb1; obtain ⟨hc1, hf1⟩ := bcell hb1; have hz1 := hb1.size; (try simp at hz1); have e10 : w.heap.size < w1.heap.size := (by omega); (try have e11 : w.heap.size + 1 < w1.heap.size := (by omega)))); go_wp2; go_ret; exact ⟨rfl, hB1⟩
  all_goals
    subst h
    go_enter Tryz.func48, Tryz.ntmps48; go_wp2_with (first | (go_at_call 70; (with_reducible refine (CK.out _ (keeps_of_below (by repeat' (first | with_reducible assumption | with_reducible exact Below.refl _ _ | with_reducible refine Below.setCell ?_ ?_ _ | with_reducible refine Below.alloc ?_ ?_ _ | with_reducible refine Below.drew ?_ | with_reducible refine below_drewN ?_ _ | omega | (simp; done) | (simp; omega))))).mono ?_); rintro e w1 ⟨rfl, hb1⟩; have hB1 := keeps_below (show Below w.heap.size w _ from (by repeat' (first | with_reducible assumption | with_reducible exact Below.refl _ _ | with_reducible refine Below.setCell ?_ ?_ _ | with_reducible refine Below.alloc ?_ ?_ _ | with_reducible refine Below.drew ?_ | with_reducible refine below_drewN ?_ _ | omega | (simp; done) | (simp; omega)))) hb1; obtain ⟨hc1, hf1⟩ := bcell hb1; have hz1 := hb1.size; (try simp at hz1); have e10 : w.heap.size < w1.heap.size := (by omega); (try have e11 : w.heap.size + 1 < w1.heap.size := (by omega)))); go_wp2; go_ret; exact ⟨rfl, hB1⟩

end Go.Proofs.YtdeomgfapffidaaGreatDoor.Va

/- The tests of size that stand ahead of a statement over Vals and Attrs: the walks. -/
import Derived.Test.YtihhgnbgejjijaaGreatDoorLeft
namespace Go.Proofs.YtihhgnbgejjijaaGreatDoor.Va
set_option linter.unusedVariables false
set_option linter.unusedSimpArgs false
open Go Go.RowKit

/-- The call answers true and leaves all as it was. -/
def YesEnd (w : World) (e : Ending) (w' : World) : Prop := e = .returned (.bool true) ∧ Below w.heap.size w w'

/-- What a test hands back. -/
def BoolEnd (b : Bool) (w : World) (e : Ending) (w' : World) : Prop := e = .returned (.bool b) ∧ Below w.heap.size w w'

def fits7 (d : GVal) : Bool := decide (d.s.size ≤ 2147483647) && decide (d.l.len ≤ 2147483647)
theorem fits7_no1 {d : GVal} (h : 2147483647 < d.s.size) : fits7 d = false := by unfold fits7; rw [decide_eq_false (by omega : ¬ d.s.size ≤ 2147483647)]; rfl
theorem fits7_no2 {d : GVal} (h : 2147483647 < d.l.len) : fits7 d = false := by unfold fits7; rw [decide_eq_false (by omega : ¬ d.l.len ≤ 2147483647), Bool.and_false]
theorem fits7_yes {d : GVal} (h : ¬ 2147483647 < d.s.size) (h2 : ¬ 2147483647 < d.l.len) : fits7 d = true := by unfold fits7; rw [decide_eq_true (by omega : d.s.size ≤ 2147483647), decide_eq_true (by omega : d.l.len ≤ 2147483647)]; rfl
theorem fits7_any (d : GVal) (w : World) (A : Option Addr) (len cap : Nat) (hw : d.wf) (hl : len = d.l.len) :
    Calls Tryz.prog 36 #[vVal d A len cap] w fun e w' => e = .returned (.bool (fits7 d)) ∧ Below w.heap.size w w' := by
  obtain ⟨k, n, s, t, l⟩ := d
  unfold GVal.wf at hw
  obtain ⟨_, _, hs, _, _, _, hln, _⟩ := hw
  simp only [l_mk] at hl
  rw [← hl] at hln
  have Hl := Lib.hid hl
  clear hl
  unfold vVal
  simp only [kind_mk, n_mk, s_mk, t_mk]
  by_cases h1 : 2147483647 < s.size
  · have g1 : (2147483647 : Int) < (s.size : Int) := by omega
    go_enter Tryz.func36, Tryz.ntmps36
    go_wp2
    go_ret
    exact ⟨ret_bool (fits7_no1 (d := .mk k n s t l) h1).symm, (by repeat' (first | with_reducible assumption | with_reducible exact Below.refl _ _ | with_reducible refine Below.setCell ?_ ?_ _ | with_reducible refine Below.alloc ?_ ?_ _ | with_reducible refine Below.drew ?_ | with_reducible refine below_drewN ?_ _ | omega | (simp; done) | (simp; omega)))⟩
  · have g1 : ¬ (2147483647 : Int) < (s.size : Int) := by omega
    by_cases h2 : 2147483647 < len
    · have g2 : (2147483647 : Int) < (len : Int) := by omega
      go_enter Tryz.func36, Tryz.ntmps36
      go_wp2
      go_ret
      exact ⟨ret_bool (fits7_no2 (d := .mk k n s t l) (by have := Hl.out; simp only [l_mk]; omega)).symm, (by repeat' (first | with_reducible assumption | with_reducible exact Below.refl _ _ | with_reducible refine Below.setCell ?_ ?_ _ | with_reducible refine Below.alloc ?_ ?_ _ | with_reducible refine Below.drew ?_ | with_reducible refine below_drewN ?_ _ | omega | (simp; done) | (simp; omega)))⟩
    · have g2 : ¬ (2147483647 : Int) < (len : Int) := by omega
      go_enter Tryz.func36, Tryz.ntmps36
      go_wp2
      go_ret
      exact ⟨ret_bool (fits7_yes (d := .mk k n s t l) h1 (by have := Hl.out; simp only [l_mk]; omega)).symm, (by repeat' (first | with_reducible assumption | with_reducible exact Below.refl _ _ | with_reducible refine Below.setCell ?_ ?_ _ | with_reducible refine Below.alloc ?_ ?_ _ | with_reducible refine Below.drew ?_ | with_reducible refine below_drewN ?_ _ | omega | (simp; done) | (simp; omega)))⟩

end Go.Proofs.YtihhgnbgejjijaaGreatDoor.Va

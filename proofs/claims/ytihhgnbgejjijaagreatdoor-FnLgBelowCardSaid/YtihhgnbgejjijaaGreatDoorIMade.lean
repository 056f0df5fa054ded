/- impl.Made. -/
import Derived.Test.YtihhgnbgejjijaaGreatDoorToldV
import Derived.Test.YtihhgnbgejjijaaGreatDoorMadeP
namespace Go.Proofs.YtihhgnbgejjijaaGreatDoor.Va
set_option linter.unusedVariables false
set_option linter.unusedSimpArgs false
open Go Go.RowKit

set_option maxRecDepth 100000 in
set_option maxHeartbeats 1000000 in
/-- impl.Made. -/
theorem implMade_any (d : GVal) (w : World) (A : Option Addr) (len cap : Nat) (hs : d.size ≤ 65536) (hw : d.wf) (hl : RS w d.l A len) :
    Calls Tryz.prog 56 #[vVal d A len cap] w (TidyPost (told (valueOf none d)) w) := by
  unfold TidyPost
  have HV := Lib.hid (fun wx (hk : Keeps w wx) => valueOf_any none d wx A len cap (by omega) hw (hl.keep hk))
  have HZ := Lib.hid (show vSize (valueOf none d) ≤ 700000 by have := vsize_of none d; omega)
  clear hs hw hl
  unfold vVal at HV ⊢
  go_enter Tryz.func56, Tryz.ntmps56
  go_wp2_with (first
    | (go_at_call 92; refine (HV.out _ (keeps_of_below (by repeat' (first | with_reducible assumption | with_reducible exact Below.refl _ _ | with_reducible refine Below.setCell ?_ ?_ _ | with_reducible refine Below.alloc ?_ ?_ _ | with_reducible refine Below.drew ?_ | with_reducible refine below_drewN ?_ _ | omega | (simp; done) | (simp; omega))))).mono ?_; rintro e w1 ⟨x1, y1, rfl, hr1, hb1⟩; have hB1 := keeps_below (show Below w.heap.size w _ from (by repeat' (first | with_reducible assumption | with_reducible exact Below.refl _ _ | with_reducible refine Below.setCell ?_ ?_ _ | with_reducible refine Below.alloc ?_ ?_ _ | with_reducible refine Below.drew ?_ | with_reducible refine below_drewN ?_ _ | omega | (simp; done) | (simp; omega)))) hb1; obtain ⟨hc1, hf1⟩ := bcell hb1; have hz1 := hb1.size; (try simp at hz1); have e10 : w.heap.size < w1.heap.size := (by omega); have e11 : w.heap.size + 1 < w1.heap.size := (by omega); have HR1 := Lib.hid hr1; clear hr1)
    | (go_at_call 97; refine (told_any _ _ _ _ _ HZ.out HR1.out).mono ?_; rintro e w2 ⟨A2, len2, cap2, rfl, hr2, hb2⟩; have hB2 := keeps_below (show Below w.heap.size w _ from (by repeat' (first | with_reducible assumption | with_reducible exact Below.refl _ _ | with_reducible refine Below.setCell ?_ ?_ _ | with_reducible refine Below.alloc ?_ ?_ _ | with_reducible refine Below.drew ?_ | with_reducible refine below_drewN ?_ _ | omega | (simp; done) | (simp; omega)))) hb2; obtain ⟨hc2, hf2⟩ := bcell hb2; have hz2 := hb2.size; (try simp at hz2); have e20 : w.heap.size < w2.heap.size := (by omega); have e21 : w.heap.size + 1 < w2.heap.size := (by omega); have HR2 := Lib.hid hr2; clear hr2; unfold vVal))
  refine bodyPost_ret (v := vVal (told (valueOf none d)) A2 len2 cap2) ?_ rfl ⟨_, _, _, rfl, HR2.out.turn (by repeat' (first | with_reducible assumption | with_reducible exact KeepsOn.refl _ _ | with_reducible refine KeepsOn.setCell ?_ ?_ _ | with_reducible refine KeepsOn.alloc ?_ _ | with_reducible refine KeepsOn.drew ?_ | (intro b hb; simp at hb ⊢; omega) | (rintro b ⟨_, hb⟩; simp at hb ⊢; omega) | (rintro b ⟨_, hb⟩; omega))) (fun b hb _ => by simp at hb ⊢; omega), ?_⟩
  · simp [results, Tryz.results56, go_sem, hc1, hf1, e10, e11, hc2, hf2, e20, e21]; (try rfl)
  · exact below_set7 hB2 (by omega) _ _ _ _ _ _ _

end Go.Proofs.YtihhgnbgejjijaaGreatDoor.Va

/- impl.AnyAgain, impl.AnyBack. -/
import Derived.Test.YtihhgnbgejjijaaGreatDoorIMade
import Derived.Test.YtihhgnbgejjijaaGreatDoorAgainB
namespace Go.Proofs.YtihhgnbgejjijaaGreatDoor.Va
set_option linter.unusedVariables false
set_option linter.unusedSimpArgs false
open Go Go.RowKit

theorem full_full : ∀ l : SAttrs, l.full.full = l.full
  | .nil => rfl
  | .cons k v r => by
    have h := full_full r
    by_cases hv : v.isEmptyGroup = true
    · have e : (SAttrs.cons k v r).full = r.full := by rw [SAttrs.full, if_pos hv]
      rw [e, h]
    · have e : (SAttrs.cons k v r).full = .cons k v r.full := by rw [SAttrs.full, if_neg hv]
      rw [e, SAttrs.full, if_neg hv, h]
theorem again_value (c : Option Addr) (d : GVal) : again (valueOf c d) = valueOf c d := by
  obtain ⟨k, n, s, t, l⟩ := d
  unfold valueOf
  repeat' split
  all_goals first | rfl | (simp only [again, full_full])
theorem len_full_le : ∀ l : SAttrs, l.full.len ≤ l.len
  | .nil => Nat.le_refl _
  | .cons k v r => by
    have h := len_full_le r
    unfold SAttrs.full
    split
    · simp only [SAttrs.len]; omega
    · simp only [SAttrs.len]; omega
theorem backable_value (c : Option Addr) (d : GVal) (hw : d.wf) (hs : d.size ≤ 65536) : backable (valueOf c d) := by
  obtain ⟨k, n, s, t, l⟩ := d
  unfold GVal.wf at hw
  have hl : (attrsOf c l).full.len ≤ 300000 := by
    have h1 := len_full_le (attrsOf c l)
    have h2 := slen_attrsOf c l
    have h3 := len_le_size l
    simp only [GVal.size] at hs
    omega
  unfold valueOf
  by_cases h1 : k = 1
  · rw [if_pos h1]; intro _; omega
  rw [if_neg h1]
  repeat' split
  all_goals first
    | exact trivial
    | exact hw.2.2.1
    | exact hl
    | (intro h; omega)

set_option maxRecDepth 100000 in
set_option maxHeartbeats 1000000 in
/-- impl.AnyAgain. -/
theorem implAgain_any (d : GVal) (w : World) (A : Option Addr) (len cap : Nat) (hs : d.size ≤ 65536) (hw : d.wf) (hl : RS w d.l A len) :
    Calls Tryz.prog 47 #[vVal d A len cap] w (TidyPost (told (valueOf none d)) w) := by
  unfold TidyPost
  have HV := Lib.hid (fun wx (hk : Keeps w wx) => valueOf_any none d wx A len cap (by omega) hw (hl.keep hk))
  have HZ := Lib.hid (show vSize (valueOf none d) ≤ 700000 by have := vsize_of none d; omega)
  clear hs hw hl
  unfold vVal at HV ⊢
  go_enter Tryz.func47, Tryz.ntmps47
  go_wp2_with (first
    | (go_at_call 92; refine (HV.out _ (keeps_of_below (by repeat' (first | with_reducible assumption | with_reducible exact Below.refl _ _ | with_reducible refine Below.setCell ?_ ?_ _ | with_reducible refine Below.alloc ?_ ?_ _ | with_reducible refine Below.drew ?_ | with_reducible refine below_drewN ?_ _ | omega | (simp; done) | (simp; omega))))).mono ?_; rintro e w1 ⟨x1, y1, rfl, hr1, hb1⟩; obtain ⟨i1, rfl, hy1⟩ := rsv_shape hr1; have HY1 := Lib.hid hy1; have hB1 := keeps_below (show Below w.heap.size w _ from (by repeat' (first | with_reducible assumption | with_reducible exact Below.refl _ _ | with_reducible refine Below.setCell ?_ ?_ _ | with_reducible refine Below.alloc ?_ ?_ _ | with_reducible refine Below.drew ?_ | with_reducible refine below_drewN ?_ _ | omega | (simp; done) | (simp; omega)))) hb1; obtain ⟨hc1, hf1⟩ := bcell hb1; have hz1 := hb1.size; (try simp at hz1); have e10 : w.heap.size < w1.heap.size := (by omega); have e11 : w.heap.size + 1 < w1.heap.size := (by omega); have HR1 := Lib.hid hr1; clear hr1 hy1)
    | (go_at_call 100; refine (mk_value i1 y1 HY1.out _).mono ?_; rintro e w2 ⟨rfl, hb2⟩; have HR2 := Lib.hid (HR1.out.keep (keeps_of_below hb2)); have hB2 := keeps_below (show Below w.heap.size w _ from (by repeat' (first | with_reducible assumption | with_reducible exact Below.refl _ _ | with_reducible refine Below.setCell ?_ ?_ _ | with_reducible refine Below.alloc ?_ ?_ _ | with_reducible refine Below.drew ?_ | with_reducible refine below_drewN ?_ _ | omega | (simp; done) | (simp; omega)))) hb2; obtain ⟨hc2, hf2⟩ := bcell hb2; have hz2 := hb2.size; (try simp at hz2); have e20 : w.heap.size < w2.heap.size := (by omega); have e21 : w.heap.size + 1 < w2.heap.size := (by omega))
    | (go_at_call 97; refine (told_any _ _ _ _ _ HZ.out HR2.out).mono ?_; rintro e w3 ⟨A3, len3, cap3, rfl, hr3, hb3⟩; have hB3 := keeps_below (show Below w.heap.size w _ from (by repeat' (first | with_reducible assumption | with_reducible exact Below.refl _ _ | with_reducible refine Below.setCell ?_ ?_ _ | with_reducible refine Below.alloc ?_ ?_ _ | with_reducible refine Below.drew ?_ | with_reducible refine below_drewN ?_ _ | omega | (simp; done) | (simp; omega)))) hb3; obtain ⟨hc3, hf3⟩ := bcell hb3; have hz3 := hb3.size; (try simp at hz3); have e30 : w.heap.size < w3.heap.size := (by omega); have e31 : w.heap.size + 1 < w3.heap.size := (by omega); have HR3 := Lib.hid hr3; clear hr3; unfold vVal))
  refine bodyPost_ret (v := vVal (told (valueOf none d)) A3 len3 cap3) ?_ rfl ⟨_, _, _, rfl, HR3.out.turn (by repeat' (first | with_reducible assumption | with_reducible exact KeepsOn.refl _ _ | with_reducible refine KeepsOn.setCell ?_ ?_ _ | with_reducible refine KeepsOn.alloc ?_ _ | with_reducible refine KeepsOn.drew ?_ | (intro b hb; simp at hb ⊢; omega) | (rintro b ⟨_, hb⟩; simp at hb ⊢; omega) | (rintro b ⟨_, hb⟩; omega))) (fun b hb _ => by simp at hb ⊢; omega), ?_⟩
  · simp [results, Tryz.results47, go_sem, hc1, hf1, e10, e11, hc2, hf2, e20, e21, hc3, hf3, e30, e31]; (try rfl)
  · exact below_set7 hB3 (by omega) _ _ _ _ _ _ _

set_option maxRecDepth 100000 in
set_option maxHeartbeats 1000000 in
/-- impl.AnyBack. -/
theorem implBack_any (d : GVal) (w : World) (A : Option Addr) (len cap : Nat) (hs : d.size ≤ 65536) (hw : d.wf) (hl : RS w d.l A len) :
    Calls Tryz.prog 48 #[vVal d A len cap] w (TidyPost (told (valueOf none d)) w) := by
  unfold TidyPost
  have HV := Lib.hid (fun wx (hk : Keeps w wx) => valueOf_any none d wx A len cap (by omega) hw (hl.keep hk))
  have HZ := Lib.hid (show vSize (valueOf none d) ≤ 700000 by have := vsize_of none d; omega)
  have HBk := Lib.hid (backable_value none d hw hs)
  have HAg := Lib.hid (again_value none d)
  clear hs hw hl
  unfold vVal at HV ⊢
  go_enter Tryz.func48, Tryz.ntmps48
  go_wp2_with (first
    | (go_at_call 92; refine (HV.out _ (keeps_of_below (by repeat' (first | with_reducible assumption | with_reducible exact Below.refl _ _ | with_reducible refine Below.setCell ?_ ?_ _ | with_reducible refine Below.alloc ?_ ?_ _ | with_reducible refine Below.drew ?_ | with_reducible refine below_drewN ?_ _ | omega | (simp; done) | (simp; omega))))).mono ?_; rintro e w1 ⟨x1, y1, rfl, hr1, hb1⟩; obtain ⟨i1, rfl, hy1⟩ := rsv_shape hr1; have HY1 := Lib.hid hy1; have hB1 := keeps_below (show Below w.heap.size w _ from (by repeat' (first | with_reducible assumption | with_reducible exact Below.refl _ _ | with_reducible refine Below.setCell ?_ ?_ _ | with_reducible refine Below.alloc ?_ ?_ _ | with_reducible refine Below.drew ?_ | with_reducible refine below_drewN ?_ _ | omega | (simp; done) | (simp; omega)))) hb1; obtain ⟨hc1, hf1⟩ := bcell hb1; have hz1 := hb1.size; (try simp at hz1); have e10 : w.heap.size < w1.heap.size := (by omega); have e11 : w.heap.size + 1 < w1.heap.size := (by omega); have HR1 := Lib.hid hr1; clear hr1 hy1)
    | (go_at_call 101; refine (anyAll _ _ _ _ HR1.out).mono ?_; rintro e w2 ⟨z2, rfl, hr2, hb2⟩; have hB2 := keeps_below (show Below w.heap.size w _ from (by repeat' (first | with_reducible assumption | with_reducible exact Below.refl _ _ | with_reducible refine Below.setCell ?_ ?_ _ | with_reducible refine Below.alloc ?_ ?_ _ | with_reducible refine Below.drew ?_ | with_reducible refine below_drewN ?_ _ | omega | (simp; done) | (simp; omega)))) hb2; obtain ⟨hc2, hf2⟩ := bcell hb2; have hz2 := hb2.size; (try simp at hz2); have e20 : w.heap.size < w2.heap.size := (by omega); have e21 : w.heap.size + 1 < w2.heap.size := (by omega); have HR2 := Lib.hid hr2; clear hr2)
    | (go_at_call 100; refine (anyValue_raw _ _ _ HR2.out HBk.out (fun b hb => by show _ ≤ b; first | omega | (simp; omega))).mono ?_; rintro e w3 ⟨x3, y3, rfl, hr3, hb3⟩; have hB3 := keeps_below (show Below w.heap.size w _ from (by repeat' (first | with_reducible assumption | with_reducible exact Below.refl _ _ | with_reducible refine Below.setCell ?_ ?_ _ | with_reducible refine Below.alloc ?_ ?_ _ | with_reducible refine Below.drew ?_ | with_reducible refine below_drewN ?_ _ | omega | (simp; done) | (simp; omega)))) hb3; obtain ⟨hc3, hf3⟩ := bcell hb3; have hz3 := hb3.size; (try simp at hz3); have e30 : w.heap.size < w3.heap.size := (by omega); have e31 : w.heap.size + 1 < w3.heap.size := (by omega); rw [HAg.out] at hr3; have HR3 := Lib.hid hr3; clear hr3)
    | (go_at_call 97; refine (told_any _ _ _ _ _ HZ.out HR3.out).mono ?_; rintro e w4 ⟨A4, len4, cap4, rfl, hr4, hb4⟩; have hB4 := keeps_below (show Below w.heap.size w _ from (by repeat' (first | with_reducible assumption | with_reducible exact Below.refl _ _ | with_reducible refine Below.setCell ?_ ?_ _ | with_reducible refine Below.alloc ?_ ?_ _ | with_reducible refine Below.drew ?_ | with_reducible refine below_drewN ?_ _ | omega | (simp; done) | (simp; omega)))) hb4; obtain ⟨hc4, hf4⟩ := bcell hb4; have hz4 := hb4.size; (try simp at hz4); have e40 : w.heap.size < w4.heap.size := (by omega); have e41 : w.heap.size + 1 < w4.heap.size := (by omega); have HR4 := Lib.hid hr4; clear hr4; unfold vVal))
  refine bodyPost_ret (v := vVal (told (valueOf none d)) A4 len4 cap4) ?_ rfl ⟨_, _, _, rfl, HR4.out.turn (by repeat' (first | with_reducible assumption | with_reducible exact KeepsOn.refl _ _ | with_reducible refine KeepsOn.setCell ?_ ?_ _ | with_reducible refine KeepsOn.alloc ?_ _ | with_reducible refine KeepsOn.drew ?_ | (intro b hb; simp at hb ⊢; omega) | (rintro b ⟨_, hb⟩; simp at hb ⊢; omega) | (rintro b ⟨_, hb⟩; omega))) (fun b hb _ => by simp at hb ⊢; omega), ?_⟩
  · simp [results, Tryz.results48, go_sem, hc1, hf1, e10, e11, hc2, hf2, e20, e21, hc3, hf3, e30, e31, hc4, hf4, e40, e41]; (try rfl)
  · exact below_set7 hB4 (by omega) _ _ _ _ _ _ _

end Go.Proofs.YtihhgnbgejjijaaGreatDoor.Va

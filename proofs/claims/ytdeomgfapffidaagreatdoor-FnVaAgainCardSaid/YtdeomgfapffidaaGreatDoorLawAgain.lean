/- The statement FnVaAgain: the walk. -/
import Derived.Test.YtdeomgfapffidaaGreatDoorIAgain
import Derived.Test.YtdeomgfapffidaaGreatDoorSameB
import Derived.Test.YtdeomgfapffidaaGreatDoorRvs
import Derived.Deep.RegionHeld3
namespace Go.Proofs.YtdeomgfapffidaaGreatDoor.Va
set_option linter.unusedVariables false
set_option linter.unusedSimpArgs false
open Go Go.RowKit

section
variable (da : GVal) (w : World) (A : Option Addr) (len cap : Nat)

set_option maxRecDepth 100000 in
set_option maxHeartbeats 400000 in
theorem lawAgain_no1 (cFa : ∀ wx, Calls Tryz.prog 15 #[vVal da A len cap] wx (BoolEnd false wx)) :
    Calls Tryz.prog 6 #[vVal da A len cap] w (YesEnd w) := by
  unfold vVal at cFa ⊢
  unfold YesEnd
  have CFa := Lib.hid cFa
  clear cFa
  go_enter Tryz.func6, Tryz.ntmps6
  go_wp2_with (go_at_call 15; (with_reducible refine (CFa.out _).mono ?_); rintro e w2 ⟨rfl, hb2⟩; have hB2 := keeps_below (show Below w.heap.size w _ from (by repeat' (first | with_reducible assumption | with_reducible exact Below.refl _ _ | with_reducible refine Below.setCell ?_ ?_ _ | with_reducible refine Below.alloc ?_ ?_ _ | with_reducible refine Below.drew ?_ | with_reducible refine below_drewN ?_ _ | omega | (simp; done) | (simp; omega)))) hb2)
  go_ret
  exact ⟨rfl, hB2⟩

set_option maxRecDepth 100000 in
set_option maxHeartbeats 1000000 in
theorem lawAgain_no2 (cFa : ∀ wx, Calls Tryz.prog 15 #[vVal da A len cap] wx (BoolEnd true wx)) (ha : RS w da.l A len) (cN : ∀ wx b, RVs wx [da] b 0 → Calls Tryz.prog 16 #[.slice (some ⟨b, 0, none⟩) 1 1] wx (BoolEnd false wx)) :
    Calls Tryz.prog 6 #[vVal da A len cap] w (YesEnd w) := by
  unfold vVal at cFa ⊢
  unfold YesEnd
  have CFa := Lib.hid cFa
  have CN := Lib.hid cN
  have HX := box_new w 27 da A len cap _ rfl
  have hW : Below w.heap.size w (w.alloc (.cells #[.int .i64 da.kind, .int .u64 da.n, .string da.s, .int .i64 da.t.sec, .int .i64 da.t.nsec, .int .i64 da.t.off, .slice A len cap] 27)) := (by repeat' (first | with_reducible assumption | with_reducible exact Below.refl _ _ | with_reducible refine Below.setCell ?_ ?_ _ | with_reducible refine Below.alloc ?_ ?_ _ | with_reducible refine Below.drew ?_ | with_reducible refine below_drewN ?_ _ | omega | (simp; done) | (simp; omega)))
  have HRA := Lib.hid ha
  clear cFa cN ha
  go_enter Tryz.func6, Tryz.ntmps6
  go_wp2_with fail
  generalize w.alloc (.cells #[.int .i64 da.kind, .int .u64 da.n, .string da.s, .int .i64 da.t.sec, .int .i64 da.t.nsec, .int .i64 da.t.off, .slice A len cap] 27) = W at HX hW ⊢
  have HXA := Lib.hid HX
  clear HX
  go_wp2_with (first
    | (go_at_call 15; (with_reducible refine (CFa.out _).mono ?_); rintro e w2 ⟨rfl, hb2⟩; obtain ⟨p0, p1, p2, p3, p4, p5, p6⟩ := HXA.out.keep (keeps_of_below hb2); have hB2 := keeps_below hW hb2; have hK2 := Lib.hid (keeps_of_below hb2))
    | (go_at_call 16; (refine (CN.out _ _ (rvs1 (keeps_of_below hB2) HRA.out)).mono ?_); rintro e w4 ⟨rfl, hb4⟩; have hB4 := keeps_below (keeps_below hB2 ((Below.refl _ _).alloc (Nat.le_refl _) _)) hb4; have hK4 := Lib.hid ((hK2.out.trans (keeps_alloc _ _)).trans (keeps_of_below hb4)); have HL4 := Lib.hid (HRA.out.keep (keeps_of_below hB4)); clear hb4 p0 p1 p2 p3 p4 p5 p6; obtain ⟨p0, p1, p2, p3, p4, p5, p6⟩ := HXA.out.keep hK4.out))
  go_ret
  exact ⟨rfl, hB4⟩

set_option maxRecDepth 100000 in
set_option maxHeartbeats 1000000 in
theorem lawAgain_core (cFa : ∀ wx, Calls Tryz.prog 15 #[vVal da A len cap] wx (BoolEnd true wx)) (ha : RS w da.l A len) (cN : ∀ wx b, RVs wx [da] b 0 → Calls Tryz.prog 16 #[.slice (some ⟨b, 0, none⟩) 1 1] wx (BoolEnd true wx)) (dt dm : GVal)
    (cT : ∀ wx, Keeps w wx → Calls Tryz.prog 17 #[vVal da A len cap] wx (TidyPost dt wx)) (cM : ∀ wx, Keeps w wx → Calls Tryz.prog 23 #[vVal da A len cap] wx (TidyPost dm wx))
    (cM2 : ∀ wx, Keeps w wx → Calls Tryz.prog 24 #[vVal da A len cap] wx (TidyPost dm wx))
    (cS : ∀ wx A1 A2 l1 c1 l2 c2, RS wx dm.l A1 l1 → RS wx dt.l A2 l2 → Calls Tryz.prog 18 #[vVal dm A1 l1 c1, vVal dt A2 l2 c2] wx (YesEnd wx)) :
    Calls Tryz.prog 6 #[vVal da A len cap] w (YesEnd w) := by
  have CT := Lib.hid cT
  have CM := Lib.hid cM
  have CM2 := Lib.hid cM2
  have CS := Lib.hid cS
  clear cT cM cM2 cS
  unfold vVal at cFa
  unfold YesEnd
  have CFa := Lib.hid cFa
  have CN := Lib.hid cN
  have HX := box_new w 27 da A len cap _ rfl
  have hW : Below w.heap.size w (w.alloc (.cells #[.int .i64 da.kind, .int .u64 da.n, .string da.s, .int .i64 da.t.sec, .int .i64 da.t.nsec, .int .i64 da.t.off, .slice A len cap] 27)) := (by repeat' (first | with_reducible assumption | with_reducible exact Below.refl _ _ | with_reducible refine Below.setCell ?_ ?_ _ | with_reducible refine Below.alloc ?_ ?_ _ | with_reducible refine Below.drew ?_ | with_reducible refine below_drewN ?_ _ | omega | (simp; done) | (simp; omega)))
  have HRA := Lib.hid ha
  clear cFa cN ha
  unfold vVal YesEnd at CS
  unfold vVal TidyPost at CT CM CM2
  unfold vVal
  go_enter Tryz.func6, Tryz.ntmps6
  go_wp2_with fail
  generalize w.alloc (.cells #[.int .i64 da.kind, .int .u64 da.n, .string da.s, .int .i64 da.t.sec, .int .i64 da.t.nsec, .int .i64 da.t.off, .slice A len cap] 27) = W at HX hW ⊢
  have HXA := Lib.hid HX
  clear HX
  go_wp2_with (first
    | (go_at_call 15; (with_reducible refine (CFa.out _).mono ?_); rintro e w2 ⟨rfl, hb2⟩; obtain ⟨p0, p1, p2, p3, p4, p5, p6⟩ := HXA.out.keep (keeps_of_below hb2); have hB2 := keeps_below hW hb2; have hK2 := Lib.hid (keeps_of_below hb2))
    | (go_at_call 16; (refine (CN.out _ _ (rvs1 (keeps_of_below hB2) HRA.out)).mono ?_); rintro e w4 ⟨rfl, hb4⟩; have hB4 := keeps_below (keeps_below hB2 ((Below.refl _ _).alloc (Nat.le_refl _) _)) hb4; have hK4 := Lib.hid ((hK2.out.trans (keeps_alloc _ _)).trans (keeps_of_below hb4)); have HL4 := Lib.hid (HRA.out.keep (keeps_of_below hB4)); clear hb4 p0 p1 p2 p3 p4 p5 p6; obtain ⟨p0, p1, p2, p3, p4, p5, p6⟩ := HXA.out.keep hK4.out)
    | (go_at_call 17; ((with_reducible refine (CT.out _ (keeps_of_below hB4)).mono ?_); rintro e w5 ⟨A5, l5, c5, rfl, hr5, hb5⟩; have hB5 := keeps_below hB4 hb5; have hK5 := Lib.hid (hK4.out.trans (keeps_of_below hb5)); have HR5 := Lib.hid hr5.rs; have hs5 := hb5.size; clear hr5 hb5 p0 p1 p2 p3 p4 p5 p6; unfold vVal)))
  have HXB := Lib.hid (box_new w5 27 dt A5 l5 c5 _ rfl)
  have hK6 := Lib.hid (hK5.out.trans (keeps_alloc w5 (.cells #[.int .i64 dt.kind, .int .u64 dt.n, .string dt.s, .int .i64 dt.t.sec, .int .i64 dt.t.nsec, .int .i64 dt.t.off, .slice A5 l5 c5] 27)))
  have hB6 := Lib.hid (hB5.alloc hB5.size (.cells #[.int .i64 dt.kind, .int .u64 dt.n, .string dt.s, .int .i64 dt.t.sec, .int .i64 dt.t.nsec, .int .i64 dt.t.off, .slice A5 l5 c5] 27))
  have HR6 := Lib.hid (HR5.out.keep (keeps_alloc w5 (.cells #[.int .i64 dt.kind, .int .u64 dt.n, .string dt.s, .int .i64 dt.t.sec, .int .i64 dt.t.nsec, .int .i64 dt.t.off, .slice A5 l5 c5] 27)))
  generalize w5.alloc (.cells #[.int .i64 dt.kind, .int .u64 dt.n, .string dt.s, .int .i64 dt.t.sec, .int .i64 dt.t.nsec, .int .i64 dt.t.off, .slice A5 l5 c5] 27) = w6 at HXB hK6 hB6 HR6 ⊢
  have HS6 := Lib.hid (fun wx (hx : Keeps w6 wx) => cells14 ⟨HXA.out.keep (hK6.out.trans hx), HXB.out.keep hx⟩)
  obtain ⟨q0, q1, q2, q3, q4, q5, q6, r0, r1, r2, r3, r4, r5, r6⟩ := HS6.out _ (Keeps.refl _)
  go_region_held3 (fun wx => wx.cell? ⟨w.heap.size, 0, none⟩ = some (.int .i64 da.kind) ∧ wx.cell? ⟨w.heap.size, 1, none⟩ = some (.int .u64 da.n) ∧ wx.cell? ⟨w.heap.size, 2, none⟩ = some (.string da.s) ∧ wx.cell? ⟨w.heap.size, 3, none⟩ = some (.int .i64 da.t.sec) ∧ wx.cell? ⟨w.heap.size, 4, none⟩ = some (.int .i64 da.t.nsec) ∧ wx.cell? ⟨w.heap.size, 5, none⟩ = some (.int .i64 da.t.off) ∧ wx.cell? ⟨w.heap.size, 6, none⟩ = some (.slice A len cap) ∧ wx.cell? ⟨w5.heap.size, 0, none⟩ = some (.int .i64 dt.kind) ∧ wx.cell? ⟨w5.heap.size, 1, none⟩ = some (.int .u64 dt.n) ∧ wx.cell? ⟨w5.heap.size, 2, none⟩ = some (.string dt.s) ∧ wx.cell? ⟨w5.heap.size, 3, none⟩ = some (.int .i64 dt.t.sec) ∧ wx.cell? ⟨w5.heap.size, 4, none⟩ = some (.int .i64 dt.t.nsec) ∧ wx.cell? ⟨w5.heap.size, 5, none⟩ = some (.int .i64 dt.t.off) ∧ wx.cell? ⟨w5.heap.size, 6, none⟩ = some (.slice A5 l5 c5))
    (first | with_reducible exact HS6.out _ hK7.out | with_reducible exact HS6.out _ hK8.out | with_reducible exact HS6.out _ hK9.out | with_reducible exact HS6.out _ hK10.out | with_reducible exact HS6.out _ (keeps_drew _))
    (first
      | (go_at_call 23; ((with_reducible refine (CM.out _ ((keeps_of_below hB6.out).trans (keeps_drew _))).mono ?_); rintro e w7 ⟨A7, l7, c7, rfl, hr7, hb7⟩; have hK7 := Lib.hid ((keeps_drew w6).trans (keeps_of_below hb7)); have hR7 := Lib.hid hr7.rs; have hB7 := Lib.hid (keeps_below hB6.out.drew hb7); clear hr7 hb7; unfold vVal))
      | (go_at_call 24; ((with_reducible refine (CM2.out _ (keeps_of_below hB8)).mono ?_); rintro e w9 ⟨A9, l9, c9, rfl, hr9, hb9⟩; have hK9 := Lib.hid (hK8.out.trans (keeps_of_below hb9)); have hR9 := Lib.hid hr9.rs; have hB9 := Lib.hid (keeps_below hB8 hb9); clear hr9 hb9; unfold vVal))
      | (go_at_call 18; ((with_reducible refine (CS.out w7 A7 A5 l7 c7 l5 c5 hR7.out (HR6.out.keep hK7.out)).mono ?_); rintro e w8 ⟨rfl, hb8⟩; have hK8 := Lib.hid (hK7.out.trans (keeps_of_below hb8)); have hB8 := keeps_below hB7.out hb8; clear hb8))
      | (go_at_call 18; ((with_reducible refine (CS.out w9 A9 A5 l9 c9 l5 c5 hR9.out (HR6.out.keep hK9.out)).mono ?_); rintro e w10 ⟨rfl, hb10⟩; have hK10 := Lib.hid (hK9.out.trans (keeps_of_below hb10)); have hB10 := keeps_below hB9.out hb10; clear hb10)))
  go_wp2
  go_ret
  exact ⟨rfl, hB10⟩
end

/-- laws.FnVaAgain. -/
theorem lawAgain_any (da : GVal) (w : World) (A : Option Addr) (len cap : Nat) (wa : da.wf) (ha : RS w da.l A len) :
    Calls Tryz.prog 6 #[vVal da A len cap] w (YesEnd w) := by
  have cFa := fun wx => fits7_any da wx A len cap wa ha.1
  cases h1 : fits7 da with
  | false => rw [h1] at cFa; exact lawAgain_no1 da w A len cap cFa
  | true =>
    rw [h1] at cFa
    have cN := fun wx b h => fine_any [da] wx b 0 1 1 rfl (by omega) (by simp only [List.mem_cons, List.not_mem_nil, or_false, forall_eq]; exact wa) h
    by_cases h3 : 0 ≤ fineL [da] 65536
    · rw [decide_eq_true h3] at cN
      unfold fineL fineL at h3
      rw [if_neg (by omega)] at h3
      obtain ⟨ga, sa⟩ := left_good da 20 65536 h3
      have sza : da.size ≤ 65536 := by omega
      refine lawAgain_core da w A len cap cFa ha cN (vaTidy da) (told (valueOf none da)) (fun wx hx => tidy_any da wx A len cap (by omega) (ha.keep hx)) (fun wx hx => implAgain_any da wx A len cap (by omega) wa (ha.keep hx)) (fun wx hx => implBack_any da wx A len cap (by omega) wa (ha.keep hx)) ?_
      have hP := made_size none _ da (Nat.le_refl _) wa ga
      have hz := told_gsize none da
      exact fun wx A1 A2 l1 c1 l2 c2 h1 h2 => same_any_v _ (by omega) _ wx A1 A2 l1 c1 l2 c2 hP h1 h2
    · rw [decide_eq_false h3] at cN
      exact lawAgain_no2 da w A len cap cFa ha cN

end Go.Proofs.YtdeomgfapffidaaGreatDoor.Va

/- The statement FnVaResolved: the walk. -/
import Derived.Test.YtdeomgfapffidaaGreatDoorLawResP
import Derived.Test.YtdeomgfapffidaaGreatDoorSameB
import Derived.Test.YtdeomgfapffidaaGreatDoorRvs
import Derived.Deep.RegionHeld3
namespace Go.Proofs.YtdeomgfapffidaaGreatDoor.Va
set_option linter.unusedVariables false
set_option linter.unusedSimpArgs false
open Go Go.RowKit

section
variable (da : GVal) (w : World) (A : Option Addr) (len cap : Nat)

set_option maxRecDepth 100000 in
set_option maxHeartbeats 400000 in
theorem lawResd_no1 (cFa : ∀ wx, Calls Tryz.prog 15 #[vVal da A len cap] wx (BoolEnd false wx)) :
    Calls Tryz.prog 5 #[vVal da A len cap] w (YesEnd w) := by
  unfold vVal at cFa ⊢
  unfold YesEnd
  have CFa := Lib.hid cFa
  clear cFa
  go_enter Tryz.func5, Tryz.ntmps5
  go_wp2_with (go_at_call 15; (with_reducible refine (CFa.out _).mono ?_); rintro e w2 ⟨rfl, hb2⟩; have hB2 := keeps_below (show Below w.heap.size w _ from (by repeat' (first | with_reducible assumption | with_reducible exact Below.refl _ _ | with_reducible refine Below.setCell ?_ ?_ _ | with_reducible refine Below.alloc ?_ ?_ _ | with_reducible refine Below.drew ?_ | with_reducible refine below_drewN ?_ _ | omega | (simp; done) | (simp; omega)))) hb2)
  go_ret
  exact ⟨rfl, hB2⟩

set_option maxRecDepth 100000 in
set_option maxHeartbeats 1000000 in
theorem lawResd_no2 (cFa : ∀ wx, Calls Tryz.prog 15 #[vVal da A len cap] wx (BoolEnd true wx)) (ha : RS w da.l A len) (cN : ∀ wx b, RVs wx [da] b 0 → Calls Tryz.prog 16 #[.slice (some ⟨b, 0, none⟩) 1 1] wx (BoolEnd false wx)) :
    Calls Tryz.prog 5 #[vVal da A len cap] w (YesEnd w) := by
  unfold vVal at cFa ⊢
  unfold YesEnd
  have CFa := Lib.hid cFa
  have CN := Lib.hid cN
  have HX := box_new w 27 da A len cap _ rfl
  have hW : Below w.heap.size w (w.alloc (.cells #[.int .i64 da.kind, .int .u64 da.n, .string da.s, .int .i64 da.t.sec, .int .i64 da.t.nsec, .int .i64 da.t.off, .slice A len cap] 27)) := (by repeat' (first | with_reducible assumption | with_reducible exact Below.refl _ _ | with_reducible refine Below.setCell ?_ ?_ _ | with_reducible refine Below.alloc ?_ ?_ _ | with_reducible refine Below.drew ?_ | with_reducible refine below_drewN ?_ _ | omega | (simp; done) | (simp; omega)))
  have HRA := Lib.hid ha
  clear cFa cN ha
  go_enter Tryz.func5, Tryz.ntmps5
  go_wp2_with fail
  generalize w.alloc (.cells #[.int .i64 da.kind, .int .u64 da.n, .string da.s, .int .i64 da.t.sec, .int .i64 da.t.nsec, .int .i64 da.t.off, .slice A len cap] 27) = W at HX hW ⊢
  have HXA := Lib.hid HX
  clear HX
  go_wp2_with (first
    | (go_at_call 15; (with_reducible refine (CFa.out _).mono ?_); rintro e w2 ⟨rfl, hb2⟩; obtain ⟨p0, p1, p2, p3, p4, p5, p6⟩ := HXA.out.keep (keeps_of_below hb2); have hB2 := keeps_below hW hb2; have hK2 := Lib.hid (keeps_of_below hb2))
    | (go_at_call 16; (refine (CN.out _ _ (rvs1 (keeps_of_below hB2) HRA.out)).mono ?_); rintro e w4 ⟨rfl, hb4⟩; have hB4 := keeps_below (keeps_below hB2 ((Below.refl _ _).alloc (Nat.le_refl _) _)) hb4; have hK4 := Lib.hid ((hK2.out.trans (keeps_alloc _ _)).trans (keeps_of_below hb4)); have HL4 := Lib.hid (HRA.out.keep (keeps_of_below hB4)); clear hb4 p0 p1 p2 p3 p4 p5 p6; obtain ⟨p0, p1, p2, p3, p4, p5, p6⟩ := HXA.out.keep hK4.out))
  go_ret
  exact ⟨rfl, hB4⟩

set_option maxRecDepth 100000 in
set_option maxHeartbeats 400000 in
theorem lawResd_bad (cFa : ∀ wx, Calls Tryz.prog 15 #[vVal da A len cap] wx (BoolEnd true wx)) (ha : RS w da.l A len) (cN : ∀ wx b, RVs wx [da] b 0 → Calls Tryz.prog 16 #[.slice (some ⟨b, 0, none⟩) 1 1] wx (BoolEnd true wx)) (k : Nat) (pan much : Bool) (hpm : (pan = true ∧ much = false) ∨ (pan = false ∧ much = true))
    (cT : ∀ wx, Keeps w wx → Calls Tryz.prog 20 #[vVal da A len cap] wx fun e w' => ∃ A len cap, e = .returned (vRes GVal.zero A len cap k pan much) ∧ Below wx.heap.size wx w') :
    Calls Tryz.prog 5 #[vVal da A len cap] w (YesEnd w) := by
  have CT := Lib.hid cT
  clear cT
  unfold vVal at cFa
  unfold YesEnd
  have CFa := Lib.hid cFa
  have CN := Lib.hid cN
  have HX := box_new w 27 da A len cap _ rfl
  have hW : Below w.heap.size w (w.alloc (.cells #[.int .i64 da.kind, .int .u64 da.n, .string da.s, .int .i64 da.t.sec, .int .i64 da.t.nsec, .int .i64 da.t.off, .slice A len cap] 27)) := (by repeat' (first | with_reducible assumption | with_reducible exact Below.refl _ _ | with_reducible refine Below.setCell ?_ ?_ _ | with_reducible refine Below.alloc ?_ ?_ _ | with_reducible refine Below.drew ?_ | with_reducible refine below_drewN ?_ _ | omega | (simp; done) | (simp; omega)))
  have HRA := Lib.hid ha
  clear cFa cN ha
  unfold vVal
  simp only [vVal, vRes, GVal.zero, kind_mk, n_mk, s_mk, t_mk, l_mk, GTime.zero] at CT
  rcases hpm with ⟨rfl, rfl⟩ | ⟨rfl, rfl⟩
  all_goals
    go_enter Tryz.func5, Tryz.ntmps5
    go_wp2_with fail
    generalize w.alloc (.cells #[.int .i64 da.kind, .int .u64 da.n, .string da.s, .int .i64 da.t.sec, .int .i64 da.t.nsec, .int .i64 da.t.off, .slice A len cap] 27) = W at HX hW ⊢
    have HXA := Lib.hid HX
    clear HX
    go_wp2_with (first
      | (go_at_call 15; (with_reducible refine (CFa.out _).mono ?_); rintro e w2 ⟨rfl, hb2⟩; obtain ⟨p0, p1, p2, p3, p4, p5, p6⟩ := HXA.out.keep (keeps_of_below hb2); have hB2 := keeps_below hW hb2; have hK2 := Lib.hid (keeps_of_below hb2))
      | (go_at_call 16; (refine (CN.out _ _ (rvs1 (keeps_of_below hB2) HRA.out)).mono ?_); rintro e w4 ⟨rfl, hb4⟩; have hB4 := keeps_below (keeps_below hB2 ((Below.refl _ _).alloc (Nat.le_refl _) _)) hb4; have hK4 := Lib.hid ((hK2.out.trans (keeps_alloc _ _)).trans (keeps_of_below hb4)); have HL4 := Lib.hid (HRA.out.keep (keeps_of_below hB4)); clear hb4 p0 p1 p2 p3 p4 p5 p6; obtain ⟨p0, p1, p2, p3, p4, p5, p6⟩ := HXA.out.keep hK4.out)
      | (go_at_call 20; ((refine (CT.out _ (keeps_of_below hB4)).mono ?_); rintro e w5 ⟨A5, l5, c5, rfl, hb5⟩; have hB5 := keeps_below hB4 hb5; have hs5 := hb5.size; have hK5 := Lib.hid (hK4.out.trans (keeps_of_below hb5)); clear p0 p1 p2 p3 p4 p5 p6; obtain ⟨p0, p1, p2, p3, p4, p5, p6⟩ := HXA.out.keep hK5.out; have hl5 : w.heap.size < w5.heap.size := World.block_lt_of_cell? _ ⟨w.heap.size, 0, none⟩ p0; clear hb5)))
    go_ret
    exact ⟨rfl, (by repeat' (first | with_reducible assumption | with_reducible exact Below.refl _ _ | with_reducible refine Below.setCell ?_ ?_ _ | with_reducible refine Below.alloc ?_ ?_ _ | with_reducible refine Below.drew ?_ | with_reducible refine below_drewN ?_ _ | omega | (simp; done) | (simp; omega)))⟩

set_option maxRecDepth 100000 in
set_option maxHeartbeats 1000000 in
theorem lawResd_val (cFa : ∀ wx, Calls Tryz.prog 15 #[vVal da A len cap] wx (BoolEnd true wx)) (ha : RS w da.l A len) (cN : ∀ wx b, RVs wx [da] b 0 → Calls Tryz.prog 16 #[.slice (some ⟨b, 0, none⟩) 1 1] wx (BoolEnd true wx)) (k : Nat) (dw d1 d2 dt : GVal) (hd1 : (d1.kind != 9) = true) (hk : (k = 0 ∧ (da.kind == 9) = false) ∨ (0 < k ∧ (da.kind == 9) = true))
    (cT : ∀ wx, Keeps w wx → Calls Tryz.prog 20 #[vVal da A len cap] wx fun e w' => ∃ A len cap, e = .returned (vRes dw A len cap k false false) ∧ Below wx.heap.size wx w')
    (cM : ∀ wx, Keeps w wx → Calls Tryz.prog 21 #[vVal da A len cap] wx fun e w' => ∃ A len cap, e = .returned (.tuple #[vVal d1 A len cap, .int .i64 k]) ∧ RSP (New wx) w' d1.l A len ∧ Below wx.heap.size wx w')
    (cM2 : ∀ wx A len cap, RS wx d1.l A len → Calls Tryz.prog 21 #[vVal d1 A len cap] wx fun e w' => ∃ A len cap, e = .returned (.tuple #[vVal d2 A len cap, .int .i64 0]) ∧ RSP (New wx) w' d2.l A len ∧ Below wx.heap.size wx w')
    (cD : ∀ wx A len cap, RS wx d1.l A len → Calls Tryz.prog 17 #[vVal d1 A len cap] wx (TidyPost dt wx))
    (cS : ∀ wx A1 A2 l1 c1 l2 c2, RS wx d2.l A1 l1 → RS wx dt.l A2 l2 → Calls Tryz.prog 18 #[vVal d2 A1 l1 c1, vVal dt A2 l2 c2] wx (YesEnd wx)) :
    Calls Tryz.prog 5 #[vVal da A len cap] w (YesEnd w) := by
  have CT := Lib.hid cT
  have CM := Lib.hid cM
  have CM2 := Lib.hid cM2
  have CD := Lib.hid cD
  have CS := Lib.hid cS
  clear cT cM cM2 cD cS
  unfold vVal at cFa
  unfold YesEnd
  have CFa := Lib.hid cFa
  have CN := Lib.hid cN
  have HX := box_new w 27 da A len cap _ rfl
  have hW : Below w.heap.size w (w.alloc (.cells #[.int .i64 da.kind, .int .u64 da.n, .string da.s, .int .i64 da.t.sec, .int .i64 da.t.nsec, .int .i64 da.t.off, .slice A len cap] 27)) := (by repeat' (first | with_reducible assumption | with_reducible exact Below.refl _ _ | with_reducible refine Below.setCell ?_ ?_ _ | with_reducible refine Below.alloc ?_ ?_ _ | with_reducible refine Below.drew ?_ | with_reducible refine below_drewN ?_ _ | omega | (simp; done) | (simp; omega)))
  have HRA := Lib.hid ha
  clear cFa cN ha
  unfold vVal YesEnd at CS
  unfold vVal vRes at CT
  unfold vVal at CM CM2
  unfold vVal TidyPost at CD
  unfold vVal
  have hfirst : True := trivial
  have hkk : (decide ((0 : Int) < (k : Int)) == (da.kind == 9)) = true := by
    rcases hk with ⟨rfl, h⟩ | ⟨h0, h⟩
    · rw [h]; rfl
    · rw [h, decide_eq_true (show (0 : Int) < (k : Int) by omega)]; rfl
  have HKK := Lib.hid hkk
  have hkn : (decide (0 < k) == (da.kind == 9)) = true := by
    rcases hk with ⟨rfl, h⟩ | ⟨h0, h⟩
    · rw [h]; rfl
    · rw [h, decide_eq_true h0]; rfl
  have HKN := Lib.hid hkn
  clear hk hkk hkn
  go_enter Tryz.func5, Tryz.ntmps5
  go_wp2_with fail
  generalize w.alloc (.cells #[.int .i64 da.kind, .int .u64 da.n, .string da.s, .int .i64 da.t.sec, .int .i64 da.t.nsec, .int .i64 da.t.off, .slice A len cap] 27) = W at HX hW ⊢
  have HXA := Lib.hid HX
  clear HX
  go_wp2_with (first
    | (go_at_call 15; (with_reducible refine (CFa.out _).mono ?_); rintro e w2 ⟨rfl, hb2⟩; obtain ⟨p0, p1, p2, p3, p4, p5, p6⟩ := HXA.out.keep (keeps_of_below hb2); have hB2 := keeps_below hW hb2; have hK2 := Lib.hid (keeps_of_below hb2))
    | (go_at_call 16; (refine (CN.out _ _ (rvs1 (keeps_of_below hB2) HRA.out)).mono ?_); rintro e w4 ⟨rfl, hb4⟩; have hB4 := keeps_below (keeps_below hB2 ((Below.refl _ _).alloc (Nat.le_refl _) _)) hb4; have hK4 := Lib.hid ((hK2.out.trans (keeps_alloc _ _)).trans (keeps_of_below hb4)); have HL4 := Lib.hid (HRA.out.keep (keeps_of_below hB4)); clear hb4 p0 p1 p2 p3 p4 p5 p6; obtain ⟨p0, p1, p2, p3, p4, p5, p6⟩ := HXA.out.keep hK4.out)
    | (go_at_call 20; ((refine (CT.out _ (keeps_of_below hB4)).mono ?_); rintro e w5 ⟨A5, l5, c5, rfl, hb5⟩; have hB5 := keeps_below hB4 hb5; have hs5 := hb5.size; have hK5 := Lib.hid (hK4.out.trans (keeps_of_below hb5)); clear p0 p1 p2 p3 p4 p5 p6; obtain ⟨p0, p1, p2, p3, p4, p5, p6⟩ := HXA.out.keep hK5.out; have hl5 : w.heap.size < w5.heap.size := World.block_lt_of_cell? _ ⟨w.heap.size, 0, none⟩ p0; clear hb5))
    | (go_at_call 21; ((with_reducible refine (CM.out _ (keeps_of_below (show Below w.heap.size w _ from (by repeat' (first | with_reducible assumption | with_reducible exact Below.refl _ _ | with_reducible refine Below.setCell ?_ ?_ _ | with_reducible refine Below.alloc ?_ ?_ _ | with_reducible refine Below.drew ?_ | with_reducible refine below_drewN ?_ _ | omega | (simp; done) | (simp; omega)))))).mono ?_); rintro e w6 ⟨A6, l6, c6, rfl, hr6, hb6⟩; clear hfirst; have hB6 := keeps_below (show Below w.heap.size w _ from (by repeat' (first | with_reducible assumption | with_reducible exact Below.refl _ _ | with_reducible refine Below.setCell ?_ ?_ _ | with_reducible refine Below.alloc ?_ ?_ _ | with_reducible refine Below.drew ?_ | with_reducible refine below_drewN ?_ _ | omega | (simp; done) | (simp; omega)))) hb6; have hs6 := hb6.size; simp at hs6; have hP6 := Lib.hid ((keeps_alloc w5 _).trans (keeps_of_below hb6)); have hQ6 := Lib.hid (keeps_of_below hb6); have hK6 := Lib.hid (hK5.out.trans hP6.out); have HR6 := Lib.hid hr6.rs; clear hr6 hb6 p0 p1 p2 p3 p4 p5 p6; obtain ⟨p0, p1, p2, p3, p4, p5, p6⟩ := HXA.out.keep hK6.out; have hl6 : w.heap.size < w6.heap.size := World.block_lt_of_cell? _ ⟨w.heap.size, 0, none⟩ p0))
    | (go_at_call 21; ((with_reducible refine (CM2.out _ _ _ _ (HR6.out.keep (keeps_alloc _ _))).mono ?_); rintro e w7 ⟨A7, l7, c7, rfl, hr7, hb7⟩;  have hB7 := keeps_below (show Below w.heap.size w _ from (by repeat' (first | with_reducible assumption | with_reducible exact Below.refl _ _ | with_reducible refine Below.setCell ?_ ?_ _ | with_reducible refine Below.alloc ?_ ?_ _ | with_reducible refine Below.drew ?_ | with_reducible refine below_drewN ?_ _ | omega | (simp; done) | (simp; omega)))) hb7; have hs7 := hb7.size; simp at hs7; have hP7 := Lib.hid ((keeps_alloc w6 _).trans (keeps_of_below hb7)); have hQ7 := Lib.hid (keeps_of_below hb7); have hK7 := Lib.hid (hK6.out.trans hP7.out); have HR7 := Lib.hid hr7.rs; clear hr7 hb7 p0 p1 p2 p3 p4 p5 p6; obtain ⟨p0, p1, p2, p3, p4, p5, p6⟩ := HXA.out.keep hK7.out; have hl7 : w.heap.size < w7.heap.size := World.block_lt_of_cell? _ ⟨w.heap.size, 0, none⟩ p0))
    | (go_at_call 21; ((with_reducible refine (CM.out _ (keeps_of_below (show Below w.heap.size w _ from (by repeat' (first | with_reducible assumption | with_reducible exact Below.refl _ _ | with_reducible refine Below.setCell ?_ ?_ _ | with_reducible refine Below.alloc ?_ ?_ _ | with_reducible refine Below.drew ?_ | with_reducible refine below_drewN ?_ _ | omega | (simp; done) | (simp; omega)))))).mono ?_); rintro e w8 ⟨A8, l8, c8, rfl, hr8, hb8⟩;  have hB8 := keeps_below (show Below w.heap.size w _ from (by repeat' (first | with_reducible assumption | with_reducible exact Below.refl _ _ | with_reducible refine Below.setCell ?_ ?_ _ | with_reducible refine Below.alloc ?_ ?_ _ | with_reducible refine Below.drew ?_ | with_reducible refine below_drewN ?_ _ | omega | (simp; done) | (simp; omega)))) hb8; have hs8 := hb8.size; simp at hs8; have hP8 := Lib.hid ((keeps_alloc w7 _).trans (keeps_of_below hb8)); have hQ8 := Lib.hid (keeps_of_below hb8); have hK8 := Lib.hid (hK7.out.trans hP8.out); have HR8 := Lib.hid hr8.rs; clear hr8 hb8 p0 p1 p2 p3 p4 p5 p6; obtain ⟨p0, p1, p2, p3, p4, p5, p6⟩ := HXA.out.keep hK8.out; have hl8 : w.heap.size < w8.heap.size := World.block_lt_of_cell? _ ⟨w.heap.size, 0, none⟩ p0)))
  have HX1 := Lib.hid ((box_new w6 27 d1 A6 l6 c6 _ rfl).keep (hQ7.out.trans hP8.out))
  have HX2 := Lib.hid ((box_new w7 27 d2 A7 l7 c7 _ rfl).keep hQ8.out)
  have HR6' := Lib.hid ((HR6.out.keep hP7.out).keep (hP8.out.trans (keeps_alloc w8 (.cells #[.int .i64 d1.kind, .int .u64 d1.n, .string d1.s, .int .i64 d1.t.sec, .int .i64 d1.t.nsec, .int .i64 d1.t.off, .slice A8 l8 c8] 27))))
  have HR7' := Lib.hid (HR7.out.keep (hP8.out.trans (keeps_alloc w8 (.cells #[.int .i64 d1.kind, .int .u64 d1.n, .string d1.s, .int .i64 d1.t.sec, .int .i64 d1.t.nsec, .int .i64 d1.t.off, .slice A8 l8 c8] 27))))
  have hK9 := Lib.hid (hK8.out.trans (keeps_alloc w8 (.cells #[.int .i64 d1.kind, .int .u64 d1.n, .string d1.s, .int .i64 d1.t.sec, .int .i64 d1.t.nsec, .int .i64 d1.t.off, .slice A8 l8 c8] 27)))
  have hB9 := Lib.hid (hB8.alloc hB8.size (.cells #[.int .i64 d1.kind, .int .u64 d1.n, .string d1.s, .int .i64 d1.t.sec, .int .i64 d1.t.nsec, .int .i64 d1.t.off, .slice A8 l8 c8] 27))
  have HX1' := Lib.hid (HX1.out.keep (keeps_alloc w8 (.cells #[.int .i64 d1.kind, .int .u64 d1.n, .string d1.s, .int .i64 d1.t.sec, .int .i64 d1.t.nsec, .int .i64 d1.t.off, .slice A8 l8 c8] 27)))
  have HX2' := Lib.hid (HX2.out.keep (keeps_alloc w8 (.cells #[.int .i64 d1.kind, .int .u64 d1.n, .string d1.s, .int .i64 d1.t.sec, .int .i64 d1.t.nsec, .int .i64 d1.t.off, .slice A8 l8 c8] 27)))
  clear HX1 HX2 HR6 HR7
  generalize w8.alloc (.cells #[.int .i64 d1.kind, .int .u64 d1.n, .string d1.s, .int .i64 d1.t.sec, .int .i64 d1.t.nsec, .int .i64 d1.t.off, .slice A8 l8 c8] 27) = w9 at HX1' HX2' HR6' HR7' hK9 hB9 ⊢
  clear p0 p1 p2 p3 p4 p5 p6
  have HS := Lib.hid (fun wx (hx : Keeps w9 wx) => cells15r (HX1'.out.keep hx) (HX2'.out.keep hx) (HXA.out.keep (hK9.out.trans hx)))
  obtain ⟨q0, q1, q2, q3, q4, q5, q6, r0, r1, r2, r3, r4, r5, r6, p0⟩ := HS.out _ (Keeps.refl _)
  have hk1 := HKK.out
  go_region_held3 (fun wx => wx.cell? ⟨w6.heap.size, 0, none⟩ = some (.int .i64 d1.kind) ∧ wx.cell? ⟨w6.heap.size, 1, none⟩ = some (.int .u64 d1.n) ∧ wx.cell? ⟨w6.heap.size, 2, none⟩ = some (.string d1.s) ∧ wx.cell? ⟨w6.heap.size, 3, none⟩ = some (.int .i64 d1.t.sec) ∧ wx.cell? ⟨w6.heap.size, 4, none⟩ = some (.int .i64 d1.t.nsec) ∧ wx.cell? ⟨w6.heap.size, 5, none⟩ = some (.int .i64 d1.t.off) ∧ wx.cell? ⟨w6.heap.size, 6, none⟩ = some (.slice A6 l6 c6) ∧ wx.cell? ⟨w7.heap.size, 0, none⟩ = some (.int .i64 d2.kind) ∧ wx.cell? ⟨w7.heap.size, 1, none⟩ = some (.int .u64 d2.n) ∧ wx.cell? ⟨w7.heap.size, 2, none⟩ = some (.string d2.s) ∧ wx.cell? ⟨w7.heap.size, 3, none⟩ = some (.int .i64 d2.t.sec) ∧ wx.cell? ⟨w7.heap.size, 4, none⟩ = some (.int .i64 d2.t.nsec) ∧ wx.cell? ⟨w7.heap.size, 5, none⟩ = some (.int .i64 d2.t.off) ∧ wx.cell? ⟨w7.heap.size, 6, none⟩ = some (.slice A7 l7 c7) ∧ wx.cell? ⟨w.heap.size, 0, none⟩ = some (.int .i64 da.kind))
    (first | with_reducible exact hS11 | with_reducible exact hS10 | with_reducible exact HS.out _ (keeps_drew _))
    (first
      | (go_at_call 17; ((refine (CD.out _ _ _ _ (HR6'.out.keep (keeps_drew _))).mono ?_); rintro e w10 ⟨A10, l10, c10, rfl, hr10, hb10⟩; have hK10 := Lib.hid ((keeps_drew w9).trans (keeps_of_below hb10)); have hS10 := HS.out _ hK10.out; have HR10 := Lib.hid hr10.rs; have hB10 := Lib.hid (keeps_below hB9.out.drew hb10); clear hr10 hb10))
      | (go_at_call 18; ((refine (CS.out w10 A7 A10 l7 c7 l10 c10 (HR7'.out.keep hK10.out) HR10.out).mono ?_); rintro e w11 ⟨rfl, hb11⟩; have hS11 := HS.out _ (hK10.out.trans (keeps_of_below hb11)); have hB11 := keeps_below hB10.out hb11; clear hb11)))
  go_wp2
  have e1 := HKN.out
  rw [e1]
  go_ret
  exact ⟨rfl, hB11⟩
end

/-- laws.FnVaResolved. -/
theorem lawResd_any (da : GVal) (w : World) (A : Option Addr) (len cap : Nat) (wa : da.wf) (ha : RS w da.l A len) :
    Calls Tryz.prog 5 #[vVal da A len cap] w (YesEnd w) := by
  have cFa := fun wx => fits7_any da wx A len cap wa ha.1
  cases h1 : fits7 da with
  | false => rw [h1] at cFa; exact lawResd_no1 da w A len cap cFa
  | true =>
    rw [h1] at cFa
    have cN := fun wx b h => fine_any [da] wx b 0 1 1 rfl (by omega) (by simp only [List.mem_cons, List.not_mem_nil, or_false, forall_eq]; exact wa) h
    by_cases h3 : 0 ≤ fineL [da] 65536
    · rw [decide_eq_true h3] at cN
      unfold fineL fineL at h3
      rw [if_neg (by omega)] at h3
      obtain ⟨ga, sa⟩ := left_good da 20 65536 h3
      have sza : da.size ≤ 65536 := by omega
      have hgd : GoodD da := ⟨ga, wa, by omega⟩
      have cT := fun wx (hx : Keeps w wx) => specResolve_any da wx A len cap hgd (ha.keep hx)
      have cM := fun wx (hx : Keeps w wx) => implRes_any da wx A len cap hgd (ha.keep hx)
      unfold SResPost at cT
      cases ho : resolveD 100 da 0 with
      | val d' k =>
        rw [ho] at cT cM
        obtain ⟨hg', hk9⟩ := resolve_good 100 da 0 d' k hgd ho
        have hsz' := resolve_size 100 da 0 d' k ho
        have hO := once_good hg'.1 hg'.2.1
        have hz := told_gsize none d'
        have hgO : GoodD (told (valueOf none d')) := ⟨hO.1, hO.2, by omega⟩
        have hkO : ¬ (told (valueOf none d')).kind = 9 := by rw [told_kind, value_kind none d' hg'.1]; exact hk9
        have h2 := resolveD_val (i := 0) (by omega) hkO
        have hP := made_size none _ (told (valueOf none d')) (Nat.le_refl _) hO.2 hO.1
        have hz2 := told_gsize none (told (valueOf none d'))
        refine lawResd_val da w A len cap cFa ha cN k (vaTidy d') (told (valueOf none d')) (told (valueOf none (told (valueOf none d')))) (vaTidy (told (valueOf none d'))) (by simp [hkO]) (first_calls ho)
          (fun wx hx => (cT wx hx).mono fun e w' h => by obtain ⟨a, b, c, h1, _, h3⟩ := h; exact ⟨a, b, c, h1, h3⟩) cM ?_ (fun wx A len cap h => tidy_any _ wx A len cap (by omega) h) (fun wx A1 A2 l1 c1 l2 c2 h1 h2 => same_any_v _ (by omega) _ wx A1 A2 l1 c1 l2 c2 hP h1 h2)
        intro wx A len cap h
        have := implRes_any (told (valueOf none d')) wx A len cap hgO h
        rw [show resolveD 100 (told (valueOf none d')) 0 = .val (told (valueOf none d')) 0 from h2] at this
        exact this
      | pan k =>
        rw [ho] at cT
        exact lawResd_bad da w A len cap cFa ha cN k true false (.inl ⟨rfl, rfl⟩) (fun wx hx => (cT wx hx).mono fun e w' h => by obtain ⟨a, b, c, h1, _, h3⟩ := h; exact ⟨a, b, c, h1, h3⟩)
      | much =>
        rw [ho] at cT
        exact lawResd_bad da w A len cap cFa ha cN 100 false true (.inr ⟨rfl, rfl⟩) (fun wx hx => (cT wx hx).mono fun e w' h => by obtain ⟨a, b, c, h1, _, h3⟩ := h; exact ⟨a, b, c, h1, h3⟩)
    · rw [decide_eq_false h3] at cN
      exact lawResd_no2 da w A len cap cFa ha cN

end Go.Proofs.YtdeomgfapffidaaGreatDoor.Va

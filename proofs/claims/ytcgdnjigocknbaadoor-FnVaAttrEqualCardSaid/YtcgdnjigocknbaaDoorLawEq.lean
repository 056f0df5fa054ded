/- The statement FnVaEqual: the walk. -/
import Derived.Test.YtcgdnjigocknbaaDoorIEq
import Derived.Test.YtcgdnjigocknbaaDoorFits
import Derived.Test.YtcgdnjigocknbaaDoorPlain
namespace Go.Proofs.YtcgdnjigocknbaaDoor.Va
set_option linter.unusedVariables false
set_option linter.unusedSimpArgs false
open Go Go.RowKit

/-- The call answers true and leaves all as it was. -/
def YesEnd (w : World) (e : Ending) (w' : World) : Prop := e = .returned (.bool true) ∧ Below w.heap.size w w'

/-- What a test hands back. -/
def BoolEnd (b : Bool) (w : World) (e : Ending) (w' : World) : Prop := e = .returned (.bool b) ∧ Below w.heap.size w w'

theorem rvs2 {w wx : World} {t : TypeId} {da db : GVal} {A A' : Option Addr} {len cap len' cap' : Nat} (hk : Keeps w wx) (ha : RS w da.l A len) (hb : RS w db.l A' len') :
    RVs (wx.alloc (.cells #[.int .i64 da.kind, .int .u64 da.n, .string da.s, .int .i64 da.t.sec, .int .i64 da.t.nsec, .int .i64 da.t.off, .slice A len cap, .int .i64 db.kind, .int .u64 db.n, .string db.s, .int .i64 db.t.sec, .int .i64 db.t.nsec, .int .i64 db.t.off, .slice A' len' cap'] t)) [da, db] wx.heap.size 0 := by
  have ha' := (ha.keep hk).keep (keeps_alloc wx (.cells #[.int .i64 da.kind, .int .u64 da.n, .string da.s, .int .i64 da.t.sec, .int .i64 da.t.nsec, .int .i64 da.t.off, .slice A len cap, .int .i64 db.kind, .int .u64 db.n, .string db.s, .int .i64 db.t.sec, .int .i64 db.t.nsec, .int .i64 db.t.off, .slice A' len' cap'] t))
  have hb' := (hb.keep hk).keep (keeps_alloc wx (.cells #[.int .i64 da.kind, .int .u64 da.n, .string da.s, .int .i64 da.t.sec, .int .i64 da.t.nsec, .int .i64 da.t.off, .slice A len cap, .int .i64 db.kind, .int .u64 db.n, .string db.s, .int .i64 db.t.sec, .int .i64 db.t.nsec, .int .i64 db.t.off, .slice A' len' cap'] t))
  obtain ⟨k, n, s, ti, l⟩ := da
  obtain ⟨k', n', s', ti', l'⟩ := db
  unfold RVs RVs RVs RVal
  simp only [kind_mk, n_mk, s_mk, t_mk, l_mk] at ha' hb' ⊢
  exact ⟨⟨cell_new _ _ _ _ _ _ rfl rfl, cell_new _ _ _ _ _ _ rfl rfl, cell_new _ _ _ _ _ _ rfl rfl, cell_new _ _ _ _ _ _ rfl rfl, cell_new _ _ _ _ _ _ rfl rfl, cell_new _ _ _ _ _ _ rfl rfl, A, len, cap, cell_new _ _ _ _ _ _ rfl rfl, ha'.1, ha'.2⟩,
    ⟨cell_new _ _ _ _ _ _ rfl rfl, cell_new _ _ _ _ _ _ rfl rfl, cell_new _ _ _ _ _ _ rfl rfl, cell_new _ _ _ _ _ _ rfl rfl, cell_new _ _ _ _ _ _ rfl rfl, cell_new _ _ _ _ _ _ rfl rfl, A', len', cap', cell_new _ _ _ _ _ _ rfl rfl, hb'.1, hb'.2⟩, trivial⟩

section
variable (da db : GVal) (w : World) (A A' : Option Addr) (len cap len' cap' : Nat)

set_option maxRecDepth 100000 in
set_option maxHeartbeats 400000 in
theorem lawEq_no1 (cFa : ∀ wx, Calls Tryd.prog 7 #[vVal da A len cap] wx (BoolEnd false wx)) :
    Calls Tryd.prog 3 #[vVal da A len cap, vVal db A' len' cap'] w (YesEnd w) := by
  unfold vVal at cFa ⊢
  unfold YesEnd
  have CFa := Lib.hid cFa
  clear cFa
  go_enter Tryd.func3, Tryd.ntmps3
  go_wp2_with (go_at_call 7; (with_reducible refine (CFa.out _).mono ?_); rintro e w2 ⟨rfl, hb2⟩; have hB2 := keeps_below (show Below w.heap.size w _ from (by repeat' (first | with_reducible assumption | with_reducible exact Below.refl _ _ | with_reducible refine Below.setCell ?_ ?_ _ | with_reducible refine Below.alloc ?_ ?_ _ | with_reducible refine Below.drew ?_ | with_reducible refine below_drewN ?_ _ | omega | (simp; done) | (simp; omega)))) hb2)
  go_ret
  exact ⟨rfl, hB2⟩

/-- Both boxes, cell by cell. -/
theorem cells14 {wx : World} {ba bb : Nat} (h : Box wx ba da A len cap ∧ Box wx bb db A' len' cap') :
    wx.cell? ⟨ba, 0, none⟩ = some (.int .i64 da.kind) ∧ wx.cell? ⟨ba, 1, none⟩ = some (.int .u64 da.n) ∧ wx.cell? ⟨ba, 2, none⟩ = some (.string da.s) ∧ wx.cell? ⟨ba, 3, none⟩ = some (.int .i64 da.t.sec) ∧ wx.cell? ⟨ba, 4, none⟩ = some (.int .i64 da.t.nsec) ∧ wx.cell? ⟨ba, 5, none⟩ = some (.int .i64 da.t.off) ∧ wx.cell? ⟨ba, 6, none⟩ = some (.slice A len cap) ∧
    wx.cell? ⟨bb, 0, none⟩ = some (.int .i64 db.kind) ∧ wx.cell? ⟨bb, 1, none⟩ = some (.int .u64 db.n) ∧ wx.cell? ⟨bb, 2, none⟩ = some (.string db.s) ∧ wx.cell? ⟨bb, 3, none⟩ = some (.int .i64 db.t.sec) ∧ wx.cell? ⟨bb, 4, none⟩ = some (.int .i64 db.t.nsec) ∧ wx.cell? ⟨bb, 5, none⟩ = some (.int .i64 db.t.off) ∧ wx.cell? ⟨bb, 6, none⟩ = some (.slice A' len' cap') := by
  obtain ⟨⟨a0, a1, a2, a3, a4, a5, a6⟩, b0, b1, b2, b3, b4, b5, b6⟩ := h
  exact ⟨a0, a1, a2, a3, a4, a5, a6, b0, b1, b2, b3, b4, b5, b6⟩

/-- What the walk knows of its two boxes. -/
theorem boxes_at (t : TypeId) : Box ((w.alloc (.cells #[.int .i64 da.kind, .int .u64 da.n, .string da.s, .int .i64 da.t.sec, .int .i64 da.t.nsec, .int .i64 da.t.off, .slice A len cap] t)).alloc (.cells #[.int .i64 db.kind, .int .u64 db.n, .string db.s, .int .i64 db.t.sec, .int .i64 db.t.nsec, .int .i64 db.t.off, .slice A' len' cap'] t)) w.heap.size da A len cap ∧
    Box ((w.alloc (.cells #[.int .i64 da.kind, .int .u64 da.n, .string da.s, .int .i64 da.t.sec, .int .i64 da.t.nsec, .int .i64 da.t.off, .slice A len cap] t)).alloc (.cells #[.int .i64 db.kind, .int .u64 db.n, .string db.s, .int .i64 db.t.sec, .int .i64 db.t.nsec, .int .i64 db.t.off, .slice A' len' cap'] t)) (w.heap.size + 1) db A' len' cap' :=
  ⟨(box_new w _ da A len cap _ rfl).keep (keeps_alloc _ _), box_new _ _ db A' len' cap' _ (by simp)⟩
/-- The two boxes are as they were. -/
def Two (wx : World) : Prop := Box wx w.heap.size da A len cap ∧ Box wx (w.heap.size + 1) db A' len' cap'

set_option maxRecDepth 100000 in
set_option maxHeartbeats 400000 in
theorem lawEq_no2 (cFa : ∀ wx, Calls Tryd.prog 7 #[vVal da A len cap] wx (BoolEnd true wx)) (cFb : ∀ wx, Calls Tryd.prog 7 #[vVal db A' len' cap'] wx (BoolEnd false wx)) :
    Calls Tryd.prog 3 #[vVal da A len cap, vVal db A' len' cap'] w (YesEnd w) := by
  unfold vVal at cFa cFb ⊢
  unfold YesEnd
  have CFa := Lib.hid cFa
  have CFb := Lib.hid cFb
  have HX := boxes_at da db w A A' len cap len' cap' 27
  have hW : Below w.heap.size w ((w.alloc (.cells #[.int .i64 da.kind, .int .u64 da.n, .string da.s, .int .i64 da.t.sec, .int .i64 da.t.nsec, .int .i64 da.t.off, .slice A len cap] 27)).alloc (.cells #[.int .i64 db.kind, .int .u64 db.n, .string db.s, .int .i64 db.t.sec, .int .i64 db.t.nsec, .int .i64 db.t.off, .slice A' len' cap'] 27)) := (by repeat' (first | with_reducible assumption | with_reducible exact Below.refl _ _ | with_reducible refine Below.setCell ?_ ?_ _ | with_reducible refine Below.alloc ?_ ?_ _ | with_reducible refine Below.drew ?_ | with_reducible refine below_drewN ?_ _ | omega | (simp; done) | (simp; omega)))
  clear cFa cFb
  go_enter Tryd.func3, Tryd.ntmps3
  go_wp2_with fail
  generalize (w.alloc (.cells #[.int .i64 da.kind, .int .u64 da.n, .string da.s, .int .i64 da.t.sec, .int .i64 da.t.nsec, .int .i64 da.t.off, .slice A len cap] 27)).alloc (.cells #[.int .i64 db.kind, .int .u64 db.n, .string db.s, .int .i64 db.t.sec, .int .i64 db.t.nsec, .int .i64 db.t.off, .slice A' len' cap'] 27) = W at HX hW ⊢
  have HXA := Lib.hid HX.1
  have HXB := Lib.hid HX.2
  clear HX
  go_wp2_with (first
    | (go_at_call 7; (with_reducible refine (CFa.out _).mono ?_); rintro e w2 ⟨rfl, hb2⟩; obtain ⟨p0, p1, p2, p3, p4, p5, p6⟩ := HXB.out.keep (keeps_of_below hb2); have hB2 := keeps_below hW hb2)
    | (go_at_call 7; (with_reducible refine (CFb.out _).mono ?_); rintro e w3 ⟨rfl, hb3⟩; have hB3 := keeps_below hB2 hb3))
  go_ret
  exact ⟨rfl, hB3⟩

set_option maxRecDepth 100000 in
set_option maxHeartbeats 400000 in
theorem lawEq_no3 (cFa : ∀ wx, Calls Tryd.prog 7 #[vVal da A len cap] wx (BoolEnd true wx)) (cFb : ∀ wx, Calls Tryd.prog 7 #[vVal db A' len' cap'] wx (BoolEnd true wx))
    (ha : RS w da.l A len) (hb : RS w db.l A' len') (cN : ∀ wx b, RVs wx [da, db] b 0 → Calls Tryd.prog 8 #[.slice (some ⟨b, 0, none⟩) 2 2] wx (BoolEnd false wx)) :
    Calls Tryd.prog 3 #[vVal da A len cap, vVal db A' len' cap'] w (YesEnd w) := by
  unfold vVal at cFa cFb ⊢
  unfold YesEnd
  have CFa := Lib.hid cFa
  have CFb := Lib.hid cFb
  have CN := Lib.hid cN
  have HX := boxes_at da db w A A' len cap len' cap' 27
  have hW : Below w.heap.size w ((w.alloc (.cells #[.int .i64 da.kind, .int .u64 da.n, .string da.s, .int .i64 da.t.sec, .int .i64 da.t.nsec, .int .i64 da.t.off, .slice A len cap] 27)).alloc (.cells #[.int .i64 db.kind, .int .u64 db.n, .string db.s, .int .i64 db.t.sec, .int .i64 db.t.nsec, .int .i64 db.t.off, .slice A' len' cap'] 27)) := (by repeat' (first | with_reducible assumption | with_reducible exact Below.refl _ _ | with_reducible refine Below.setCell ?_ ?_ _ | with_reducible refine Below.alloc ?_ ?_ _ | with_reducible refine Below.drew ?_ | with_reducible refine below_drewN ?_ _ | omega | (simp; done) | (simp; omega)))
  have HRA := Lib.hid ha
  have HRB := Lib.hid hb
  clear cFa cFb cN ha hb
  go_enter Tryd.func3, Tryd.ntmps3
  go_wp2_with fail
  generalize ((w.alloc (.cells #[.int .i64 da.kind, .int .u64 da.n, .string da.s, .int .i64 da.t.sec, .int .i64 da.t.nsec, .int .i64 da.t.off, .slice A len cap] 27)).alloc (.cells #[.int .i64 db.kind, .int .u64 db.n, .string db.s, .int .i64 db.t.sec, .int .i64 db.t.nsec, .int .i64 db.t.off, .slice A' len' cap'] 27)) = W at HX hW ⊢
  have HXA := Lib.hid HX.1
  have HXB := Lib.hid HX.2
  clear HX
  go_wp2_with (first
    | (go_at_call 7; (with_reducible refine (CFa.out _).mono ?_); rintro e w2 ⟨rfl, hb2⟩; obtain ⟨p0, p1, p2, p3, p4, p5, p6⟩ := HXB.out.keep (keeps_of_below hb2); have hB2 := keeps_below hW hb2; have hK2 := Lib.hid (keeps_of_below hb2))
    | (go_at_call 7; (with_reducible refine (CFb.out _).mono ?_); rintro e w3 ⟨rfl, hb3⟩; have hB3 := keeps_below hB2 hb3; obtain ⟨q0, q1, q2, q3, q4, q5, q6⟩ := HXB.out.keep (hK2.out.trans (keeps_of_below hb3)); obtain ⟨r0, r1, r2, r3, r4, r5, r6⟩ := HXA.out.keep (hK2.out.trans (keeps_of_below hb3)); have hK3 := Lib.hid (hK2.out.trans (keeps_of_below hb3)))
    | (go_at_call 8; (refine (CN.out _ _ (rvs2 (keeps_of_below hB3) HRA.out HRB.out)).mono ?_); rintro e w4 ⟨rfl, hb4⟩; have hB4 := keeps_below (keeps_below hB3 ((Below.refl _ _).alloc (Nat.le_refl _) _)) hb4; have hK4 := Lib.hid ((hK3.out.trans (keeps_alloc _ _)).trans (keeps_of_below hb4)); clear hB2 hB3 hb4 p0 p1 p2 p3 p4 p5 p6 q0 q1 q2 q3 q4 q5 q6 r0 r1 r2 r3 r4 r5 r6))
  go_ret
  exact ⟨rfl, hB4⟩

set_option maxRecDepth 100000 in
set_option maxHeartbeats 400000 in
theorem lawEq_core (cFa : ∀ wx, Calls Tryd.prog 7 #[vVal da A len cap] wx (BoolEnd true wx)) (cFb : ∀ wx, Calls Tryd.prog 7 #[vVal db A' len' cap'] wx (BoolEnd true wx))
    (ha : RS w da.l A len) (hb : RS w db.l A' len') (cN : ∀ wx b, RVs wx [da, db] b 0 → Calls Tryd.prog 8 #[.slice (some ⟨b, 0, none⟩) 2 2] wx (BoolEnd true wx))
    (ta tb : GVal) (cTa : ∀ wx, Keeps w wx → Calls Tryd.prog 10 #[vVal da A len cap] wx (TidyPost ta wx)) (cTb : ∀ wx, Keeps w wx → Calls Tryd.prog 10 #[vVal db A' len' cap'] wx (TidyPost tb wx))
    (q : Bool × Bool) (cQ : ∀ wx A1 A2 l1 c1 l2 c2, RS wx ta.l A1 l1 → RS wx tb.l A2 l2 → Calls Tryd.prog 9 #[vVal ta A1 l1 c1, vVal tb A2 l2 c2] wx (TwoPost q wx))
    (r : Bool × Bool) (cI : ∀ wx, Keeps w wx → Calls Tryd.prog 11 #[vVal da A len cap, vVal db A' len' cap'] wx (PairEnd r wx)) (hqr : Same2 q r) :
    Calls Tryd.prog 3 #[vVal da A len cap, vVal db A' len' cap'] w (YesEnd w) := by
  unfold vVal at cFa cFb ⊢
  unfold YesEnd
  have CFa := Lib.hid cFa
  have CFb := Lib.hid cFb
  have CN := Lib.hid cN
  have HX := boxes_at da db w A A' len cap len' cap' 27
  have hW : Below w.heap.size w ((w.alloc (.cells #[.int .i64 da.kind, .int .u64 da.n, .string da.s, .int .i64 da.t.sec, .int .i64 da.t.nsec, .int .i64 da.t.off, .slice A len cap] 27)).alloc (.cells #[.int .i64 db.kind, .int .u64 db.n, .string db.s, .int .i64 db.t.sec, .int .i64 db.t.nsec, .int .i64 db.t.off, .slice A' len' cap'] 27)) := (by repeat' (first | with_reducible assumption | with_reducible exact Below.refl _ _ | with_reducible refine Below.setCell ?_ ?_ _ | with_reducible refine Below.alloc ?_ ?_ _ | with_reducible refine Below.drew ?_ | with_reducible refine below_drewN ?_ _ | omega | (simp; done) | (simp; omega)))
  have HRA := Lib.hid ha
  have HRB := Lib.hid hb
  have CTa := Lib.hid cTa
  have CTb := Lib.hid cTb
  have CQ := Lib.hid cQ
  have CI := Lib.hid cI
  obtain ⟨d1, e2⟩ := q
  obtain ⟨e1, f2⟩ := r
  obtain ⟨h2, h1⟩ := hqr
  simp only at h1 h2
  subst h2
  unfold vVal at CTa CTb CI
  clear cTa cTb cQ cI
  clear cFa cFb cN ha hb
  go_enter Tryd.func3, Tryd.ntmps3
  go_wp2_with fail
  generalize ((w.alloc (.cells #[.int .i64 da.kind, .int .u64 da.n, .string da.s, .int .i64 da.t.sec, .int .i64 da.t.nsec, .int .i64 da.t.off, .slice A len cap] 27)).alloc (.cells #[.int .i64 db.kind, .int .u64 db.n, .string db.s, .int .i64 db.t.sec, .int .i64 db.t.nsec, .int .i64 db.t.off, .slice A' len' cap'] 27)) = W at HX hW ⊢
  have HXA := Lib.hid HX.1
  have HXB := Lib.hid HX.2
  clear HX
  go_wp2_with (first
    | (go_at_call 7; (with_reducible refine (CFa.out _).mono ?_); rintro e w2 ⟨rfl, hb2⟩; obtain ⟨p0, p1, p2, p3, p4, p5, p6⟩ := HXB.out.keep (keeps_of_below hb2); have hB2 := keeps_below hW hb2; have hK2 := Lib.hid (keeps_of_below hb2))
    | (go_at_call 7; (with_reducible refine (CFb.out _).mono ?_); rintro e w3 ⟨rfl, hb3⟩; have hB3 := keeps_below hB2 hb3; obtain ⟨q0, q1, q2, q3, q4, q5, q6⟩ := HXB.out.keep (hK2.out.trans (keeps_of_below hb3)); obtain ⟨r0, r1, r2, r3, r4, r5, r6⟩ := HXA.out.keep (hK2.out.trans (keeps_of_below hb3)); have hK3 := Lib.hid (hK2.out.trans (keeps_of_below hb3)))
    | (go_at_call 8; (refine (CN.out _ _ (rvs2 (keeps_of_below hB3) HRA.out HRB.out)).mono ?_); rintro e w4 ⟨rfl, hb4⟩; have hB4 := keeps_below (keeps_below hB3 ((Below.refl _ _).alloc (Nat.le_refl _) _)) hb4; have hK4 := Lib.hid ((hK3.out.trans (keeps_alloc _ _)).trans (keeps_of_below hb4)); clear hB2 hB3 hb4 p0 p1 p2 p3 p4 p5 p6 q0 q1 q2 q3 q4 q5 q6 r0 r1 r2 r3 r4 r5 r6))
  have HS := Lib.hid (fun wx (hx : Keeps w4 wx) => And.intro (HXA.out.keep (hK4.out.trans hx)) (HXB.out.keep (hK4.out.trans hx)))
  obtain ⟨⟨p0, p1, p2, p3, p4, p5, p6⟩, ⟨q0, q1, q2, q3, q4, q5, q6⟩⟩ := HS.out _ (Keeps.refl _)
  go_region_held3 (fun wx => wx.cell? ⟨w.heap.size, 0, none⟩ = some (.int .i64 da.kind) ∧ wx.cell? ⟨w.heap.size, 1, none⟩ = some (.int .u64 da.n) ∧ wx.cell? ⟨w.heap.size, 2, none⟩ = some (.string da.s) ∧ wx.cell? ⟨w.heap.size, 3, none⟩ = some (.int .i64 da.t.sec) ∧ wx.cell? ⟨w.heap.size, 4, none⟩ = some (.int .i64 da.t.nsec) ∧ wx.cell? ⟨w.heap.size, 5, none⟩ = some (.int .i64 da.t.off) ∧ wx.cell? ⟨w.heap.size, 6, none⟩ = some (.slice A len cap) ∧ wx.cell? ⟨w.heap.size + 1, 0, none⟩ = some (.int .i64 db.kind) ∧ wx.cell? ⟨w.heap.size + 1, 1, none⟩ = some (.int .u64 db.n) ∧ wx.cell? ⟨w.heap.size + 1, 2, none⟩ = some (.string db.s) ∧ wx.cell? ⟨w.heap.size + 1, 3, none⟩ = some (.int .i64 db.t.sec) ∧ wx.cell? ⟨w.heap.size + 1, 4, none⟩ = some (.int .i64 db.t.nsec) ∧ wx.cell? ⟨w.heap.size + 1, 5, none⟩ = some (.int .i64 db.t.off) ∧ wx.cell? ⟨w.heap.size + 1, 6, none⟩ = some (.slice A' len' cap'))
    (first | exact cells14 _ _ _ _ _ _ _ _ (HS.out _ hK7.out) | exact cells14 _ _ _ _ _ _ _ _ (HS.out _ hK6.out) | exact cells14 _ _ _ _ _ _ _ _ (HS.out _ hK5.out) | exact cells14 _ _ _ _ _ _ _ _ (HS.out _ (keeps_drew _)))
    (first
      | (go_at_call 10; ((with_reducible refine (CTa.out _ ((keeps_of_below hB4).trans (keeps_drew _))).mono ?_); rintro e w5 ⟨A1, l1, c1, rfl, hr5, hb5⟩; have hK5 := Lib.hid (keeps_of_below hb5); have hR5 := Lib.hid hr5.rs; have hB5 := keeps_below hB4.drew hb5; clear hr5 hb5; unfold vVal))
      | (go_at_call 10; ((with_reducible refine (CTb.out _ (keeps_of_below hB5)).mono ?_); rintro e w6 ⟨A2, l2, c2, rfl, hr6, hb6⟩; have hK56 := Lib.hid (keeps_of_below hb6); have hK6 := Lib.hid (hK5.out.trans hK56.out); have hR6 := Lib.hid hr6.rs; have hB6 := keeps_below hB5 hb6; clear hr6 hb6; unfold vVal))
      | (go_at_call 9; ((refine (CQ.out _ _ _ _ _ _ _ (hR5.out.keep hK56.out) hR6.out).mono ?_); rintro e w7 ⟨rfl, hb7⟩; have hK7 := Lib.hid (hK6.out.trans (keeps_of_below hb7)); have hB7 := keeps_below hB6 hb7; clear hb7)))
  clear p0 p1 p2 p3 p4 p5 p6 q0 q1 q2 q3 q4 q5 q6
  obtain ⟨⟨p0, p1, p2, p3, p4, p5, p6⟩, ⟨q0, q1, q2, q3, q4, q5, q6⟩⟩ := HS.out _ hK7.out
  have H1 := Lib.hid h1
  clear h1
  cases e2
  · obtain rfl := H1.out rfl
    cases d1
    all_goals
      go_wp2_with (go_at_call 11; (refine (CI.out _ (keeps_of_below hB7)).mono ?_); rintro e w8 ⟨rfl, hb8⟩; have hB8 := keeps_below hB7 hb8; clear hb8)
      go_ret
      exact ⟨rfl, hB8⟩
  · go_wp2_with (go_at_call 11; (refine (CI.out _ (keeps_of_below hB7)).mono ?_); rintro e w8 ⟨rfl, hb8⟩; have hB8 := keeps_below hB7 hb8; clear hb8)
    go_ret
    exact ⟨rfl, hB8⟩

end

/-- laws.FnVaEqual. -/
theorem lawEq_any (da db : GVal) (w : World) (A A' : Option Addr) (len cap len' cap' : Nat) (wa : da.wf) (wb : db.wf) (ha : RS w da.l A len) (hb : RS w db.l A' len') :
    Calls Tryd.prog 3 #[vVal da A len cap, vVal db A' len' cap'] w (YesEnd w) := by
  have cFa := fun wx => fits7_any da wx A len cap wa ha.1
  have cFb := fun wx => fits7_any db wx A' len' cap' wb hb.1
  cases h1 : fits7 da with
  | false => rw [h1] at cFa; exact lawEq_no1 da db w A A' len cap len' cap' cFa
  | true =>
    rw [h1] at cFa
    cases h2 : fits7 db with
    | false => rw [h2] at cFb; exact lawEq_no2 da db w A A' len cap len' cap' cFa cFb
    | true =>
      rw [h2] at cFb
      have cN := fun wx b h => fine_any [da, db] wx b 0 2 2 rfl (by omega) (by intro d hd; rcases List.mem_cons.1 hd with rfl | hd; · exact wa
                                                                               · rcases List.mem_cons.1 hd with rfl | hd; · exact wb
                                                                                 · cases hd) h
      by_cases h3 : 0 ≤ fineL [da, db] 65536
      · rw [decide_eq_true h3] at cN
        unfold fineL fineL fineL at h3
        rw [if_neg (by omega)] at h3
        have h4 : 0 ≤ vaLeft da 20 65536 := by
          by_cases h : vaLeft da 20 65536 < 0
          · rw [if_pos h] at h3; exact h3
          · omega
        rw [if_neg (by omega)] at h3
        obtain ⟨ga, sa⟩ := left_good da 20 65536 h4
        obtain ⟨gb, sb⟩ := left_good db 20 _ h3
        have sza : da.size ≤ 65536 := by omega
        have szb : db.size ≤ 65536 := by omega
        refine lawEq_core da db w A A' len cap len' cap' cFa cFb ha hb cN (vaTidy da) (vaTidy db) (fun wx hx => tidy_any da wx A len cap (by omega) (ha.keep hx)) (fun wx hx => tidy_any db wx A' len' cap' (by omega) (hb.keep hx))
          (vaEqual (vaTidy da) (vaTidy db)) (fun wx A1 A2 l1 c1 l2 c2 h1 h2 => eq_any (vaTidy da) (by have := tsize da; omega) (vaTidy db) wx A1 A2 l1 c1 l2 c2 h1 h2)
          (sEqual (valueOf none da) (valueOf none db)) (fun wx hx => implEq_any da db _ _ _ wx A A' len cap len' cap' (fun wy hy => valueOf_any none da wy A len cap (by omega) wa (ha.keep (hx.trans hy))) (fun wy hy => valueOf_any none db wy A' len' cap' (by omega) wb (hb.keep (hx.trans hy)))
            (fun wy x y x' y' h => ?_)) (same_size none none _ da (Nat.le_refl _) wa ga db wb gb)
        obtain ⟨P, P', hd, h1, h2⟩ := h
        exact equal_any _ _ P P' wy x y x' y' hd (quiet_of da wa) (quiet_of db wb) h1 h2
      · rw [decide_eq_false h3] at cN
        exact lawEq_no3 da db w A A' len cap len' cap' cFa cFb ha hb cN

end Go.Proofs.YtcgdnjigocknbaaDoor.Va

/- The statement FnVaAttrEqual: the walk. -/
import Derived.Test.YtcgdnjigocknbaaDoorIAttr
import Derived.Test.YtcgdnjigocknbaaDoorFits4
import Derived.Test.YtcgdnjigocknbaaDoorLawEq
namespace Go.Proofs.YtcgdnjigocknbaaDoor.Va
set_option linter.unusedVariables false
set_option linter.unusedSimpArgs false
open Go Go.RowKit

section
variable (key key' : ByteArray) (da db : GVal) (w : World) (A A' : Option Addr) (len cap len' cap' : Nat)

set_option maxRecDepth 100000 in
set_option maxHeartbeats 1000000 in
theorem lawAttr_no1 (cFa : ∀ wx, Calls Tryd.prog 12 #[.agg #[.string key, .int .i64 da.kind, .int .u64 da.n, .string da.s, .int .i64 da.t.sec, .int .i64 da.t.nsec, .int .i64 da.t.off, .slice A len cap]] wx (BoolEnd false wx)) :
    Calls Tryd.prog 5 #[.agg #[.string key, .int .i64 da.kind, .int .u64 da.n, .string da.s, .int .i64 da.t.sec, .int .i64 da.t.nsec, .int .i64 da.t.off, .slice A len cap], .agg #[.string key', .int .i64 db.kind, .int .u64 db.n, .string db.s, .int .i64 db.t.sec, .int .i64 db.t.nsec, .int .i64 db.t.off, .slice A' len' cap']] w (YesEnd w) := by
  unfold YesEnd
  have CFa := Lib.hid cFa
  have hW : Below w.heap.size w ((w.alloc (.cells #[.string key, .int .i64 da.kind, .int .u64 da.n, .string da.s, .int .i64 da.t.sec, .int .i64 da.t.nsec, .int .i64 da.t.off, .slice A len cap] 35)).alloc (.cells #[.string key', .int .i64 db.kind, .int .u64 db.n, .string db.s, .int .i64 db.t.sec, .int .i64 db.t.nsec, .int .i64 db.t.off, .slice A' len' cap'] 35)) := (by repeat' (first | with_reducible assumption | with_reducible exact Below.refl _ _ | with_reducible refine Below.setCell ?_ ?_ _ | with_reducible refine Below.alloc ?_ ?_ _ | with_reducible refine Below.drew ?_ | with_reducible refine below_drewN ?_ _ | omega | (simp; done) | (simp; omega)))
  have HX : ABox ((w.alloc (.cells #[.string key, .int .i64 da.kind, .int .u64 da.n, .string da.s, .int .i64 da.t.sec, .int .i64 da.t.nsec, .int .i64 da.t.off, .slice A len cap] 35)).alloc (.cells #[.string key', .int .i64 db.kind, .int .u64 db.n, .string db.s, .int .i64 db.t.sec, .int .i64 db.t.nsec, .int .i64 db.t.off, .slice A' len' cap'] 35)) w.heap.size key da A len cap ∧ ABox ((w.alloc (.cells #[.string key, .int .i64 da.kind, .int .u64 da.n, .string da.s, .int .i64 da.t.sec, .int .i64 da.t.nsec, .int .i64 da.t.off, .slice A len cap] 35)).alloc (.cells #[.string key', .int .i64 db.kind, .int .u64 db.n, .string db.s, .int .i64 db.t.sec, .int .i64 db.t.nsec, .int .i64 db.t.off, .slice A' len' cap'] 35)) (w.heap.size + 1) key' db A' len' cap' := ⟨(abox_new w _ key da A len cap _ rfl).keep (keeps_alloc _ _), abox_new _ _ key' db A' len' cap' _ (by simp)⟩
  clear cFa 
  go_enter Tryd.func5, Tryd.ntmps5
  go_wp2_with fail
  generalize ((w.alloc (.cells #[.string key, .int .i64 da.kind, .int .u64 da.n, .string da.s, .int .i64 da.t.sec, .int .i64 da.t.nsec, .int .i64 da.t.off, .slice A len cap] 35)).alloc (.cells #[.string key', .int .i64 db.kind, .int .u64 db.n, .string db.s, .int .i64 db.t.sec, .int .i64 db.t.nsec, .int .i64 db.t.off, .slice A' len' cap'] 35)) = W at HX hW ⊢
  have HXA := Lib.hid HX.1
  have HXB := Lib.hid HX.2
  clear HX
  go_wp2_with (first
    | (go_at_call 12; (with_reducible refine (CFa.out _).mono ?_); rintro e w2 ⟨rfl, hb2⟩; have hB2 := keeps_below hW hb2; have hK2 := Lib.hid (keeps_of_below hb2); obtain ⟨p0, p1, p2, p3, p4, p5, p6, p7⟩ := HXB.out.keep hK2.out))
  go_ret
  exact ⟨rfl, hB2⟩

set_option maxRecDepth 100000 in
set_option maxHeartbeats 1000000 in
theorem lawAttr_no2 (cFa : ∀ wx, Calls Tryd.prog 12 #[.agg #[.string key, .int .i64 da.kind, .int .u64 da.n, .string da.s, .int .i64 da.t.sec, .int .i64 da.t.nsec, .int .i64 da.t.off, .slice A len cap]] wx (BoolEnd true wx)) (cFb : ∀ wx, Calls Tryd.prog 12 #[.agg #[.string key', .int .i64 db.kind, .int .u64 db.n, .string db.s, .int .i64 db.t.sec, .int .i64 db.t.nsec, .int .i64 db.t.off, .slice A' len' cap']] wx (BoolEnd false wx)) :
    Calls Tryd.prog 5 #[.agg #[.string key, .int .i64 da.kind, .int .u64 da.n, .string da.s, .int .i64 da.t.sec, .int .i64 da.t.nsec, .int .i64 da.t.off, .slice A len cap], .agg #[.string key', .int .i64 db.kind, .int .u64 db.n, .string db.s, .int .i64 db.t.sec, .int .i64 db.t.nsec, .int .i64 db.t.off, .slice A' len' cap']] w (YesEnd w) := by
  unfold YesEnd
  have CFa := Lib.hid cFa
  have CFb := Lib.hid cFb
  have hW : Below w.heap.size w ((w.alloc (.cells #[.string key, .int .i64 da.kind, .int .u64 da.n, .string da.s, .int .i64 da.t.sec, .int .i64 da.t.nsec, .int .i64 da.t.off, .slice A len cap] 35)).alloc (.cells #[.string key', .int .i64 db.kind, .int .u64 db.n, .string db.s, .int .i64 db.t.sec, .int .i64 db.t.nsec, .int .i64 db.t.off, .slice A' len' cap'] 35)) := (by repeat' (first | with_reducible assumption | with_reducible exact Below.refl _ _ | with_reducible refine Below.setCell ?_ ?_ _ | with_reducible refine Below.alloc ?_ ?_ _ | with_reducible refine Below.drew ?_ | with_reducible refine below_drewN ?_ _ | omega | (simp; done) | (simp; omega)))
  have HX : ABox ((w.alloc (.cells #[.string key, .int .i64 da.kind, .int .u64 da.n, .string da.s, .int .i64 da.t.sec, .int .i64 da.t.nsec, .int .i64 da.t.off, .slice A len cap] 35)).alloc (.cells #[.string key', .int .i64 db.kind, .int .u64 db.n, .string db.s, .int .i64 db.t.sec, .int .i64 db.t.nsec, .int .i64 db.t.off, .slice A' len' cap'] 35)) w.heap.size key da A len cap ∧ ABox ((w.alloc (.cells #[.string key, .int .i64 da.kind, .int .u64 da.n, .string da.s, .int .i64 da.t.sec, .int .i64 da.t.nsec, .int .i64 da.t.off, .slice A len cap] 35)).alloc (.cells #[.string key', .int .i64 db.kind, .int .u64 db.n, .string db.s, .int .i64 db.t.sec, .int .i64 db.t.nsec, .int .i64 db.t.off, .slice A' len' cap'] 35)) (w.heap.size + 1) key' db A' len' cap' := ⟨(abox_new w _ key da A len cap _ rfl).keep (keeps_alloc _ _), abox_new _ _ key' db A' len' cap' _ (by simp)⟩
  clear cFa cFb 
  go_enter Tryd.func5, Tryd.ntmps5
  go_wp2_with fail
  generalize ((w.alloc (.cells #[.string key, .int .i64 da.kind, .int .u64 da.n, .string da.s, .int .i64 da.t.sec, .int .i64 da.t.nsec, .int .i64 da.t.off, .slice A len cap] 35)).alloc (.cells #[.string key', .int .i64 db.kind, .int .u64 db.n, .string db.s, .int .i64 db.t.sec, .int .i64 db.t.nsec, .int .i64 db.t.off, .slice A' len' cap'] 35)) = W at HX hW ⊢
  have HXA := Lib.hid HX.1
  have HXB := Lib.hid HX.2
  clear HX
  go_wp2_with (first
    | (go_at_call 12; (with_reducible refine (CFa.out _).mono ?_); rintro e w2 ⟨rfl, hb2⟩; have hB2 := keeps_below hW hb2; have hK2 := Lib.hid (keeps_of_below hb2); obtain ⟨p0, p1, p2, p3, p4, p5, p6, p7⟩ := HXB.out.keep hK2.out)
    | (go_at_call 12; (with_reducible refine (CFb.out _).mono ?_); rintro e w3 ⟨rfl, hb3⟩; have hB3 := keeps_below hB2 hb3; have hK3 := Lib.hid (hK2.out.trans (keeps_of_below hb3)); clear p0 p1 p2 p3 p4 p5 p6 p7; obtain ⟨p0, p1, p2, p3, p4, p5, p6, p7⟩ := HXA.out.keep hK3.out; obtain ⟨q0, q1, q2, q3, q4, q5, q6, q7⟩ := HXB.out.keep hK3.out))
  go_ret
  exact ⟨rfl, hB3⟩

set_option maxRecDepth 100000 in
set_option maxHeartbeats 1000000 in
theorem lawAttr_no3 (cFa : ∀ wx, Calls Tryd.prog 12 #[.agg #[.string key, .int .i64 da.kind, .int .u64 da.n, .string da.s, .int .i64 da.t.sec, .int .i64 da.t.nsec, .int .i64 da.t.off, .slice A len cap]] wx (BoolEnd true wx)) (cFb : ∀ wx, Calls Tryd.prog 12 #[.agg #[.string key', .int .i64 db.kind, .int .u64 db.n, .string db.s, .int .i64 db.t.sec, .int .i64 db.t.nsec, .int .i64 db.t.off, .slice A' len' cap']] wx (BoolEnd true wx))
    (ha : RS w da.l A len) (hb : RS w db.l A' len') (cN : ∀ wx b, RVs wx [da, db] b 0 → Calls Tryd.prog 8 #[.slice (some ⟨b, 0, none⟩) 2 2] wx (BoolEnd false wx)) :
    Calls Tryd.prog 5 #[.agg #[.string key, .int .i64 da.kind, .int .u64 da.n, .string da.s, .int .i64 da.t.sec, .int .i64 da.t.nsec, .int .i64 da.t.off, .slice A len cap], .agg #[.string key', .int .i64 db.kind, .int .u64 db.n, .string db.s, .int .i64 db.t.sec, .int .i64 db.t.nsec, .int .i64 db.t.off, .slice A' len' cap']] w (YesEnd w) := by
  unfold YesEnd
  have CFa := Lib.hid cFa
  have CFb := Lib.hid cFb
  have hW : Below w.heap.size w ((w.alloc (.cells #[.string key, .int .i64 da.kind, .int .u64 da.n, .string da.s, .int .i64 da.t.sec, .int .i64 da.t.nsec, .int .i64 da.t.off, .slice A len cap] 35)).alloc (.cells #[.string key', .int .i64 db.kind, .int .u64 db.n, .string db.s, .int .i64 db.t.sec, .int .i64 db.t.nsec, .int .i64 db.t.off, .slice A' len' cap'] 35)) := (by repeat' (first | with_reducible assumption | with_reducible exact Below.refl _ _ | with_reducible refine Below.setCell ?_ ?_ _ | with_reducible refine Below.alloc ?_ ?_ _ | with_reducible refine Below.drew ?_ | with_reducible refine below_drewN ?_ _ | omega | (simp; done) | (simp; omega)))
  have HX : ABox ((w.alloc (.cells #[.string key, .int .i64 da.kind, .int .u64 da.n, .string da.s, .int .i64 da.t.sec, .int .i64 da.t.nsec, .int .i64 da.t.off, .slice A len cap] 35)).alloc (.cells #[.string key', .int .i64 db.kind, .int .u64 db.n, .string db.s, .int .i64 db.t.sec, .int .i64 db.t.nsec, .int .i64 db.t.off, .slice A' len' cap'] 35)) w.heap.size key da A len cap ∧ ABox ((w.alloc (.cells #[.string key, .int .i64 da.kind, .int .u64 da.n, .string da.s, .int .i64 da.t.sec, .int .i64 da.t.nsec, .int .i64 da.t.off, .slice A len cap] 35)).alloc (.cells #[.string key', .int .i64 db.kind, .int .u64 db.n, .string db.s, .int .i64 db.t.sec, .int .i64 db.t.nsec, .int .i64 db.t.off, .slice A' len' cap'] 35)) (w.heap.size + 1) key' db A' len' cap' := ⟨(abox_new w _ key da A len cap _ rfl).keep (keeps_alloc _ _), abox_new _ _ key' db A' len' cap' _ (by simp)⟩
  have CN := Lib.hid cN
  have HRA := Lib.hid ha
  have HRB := Lib.hid hb
  clear cFa cFb cN ha hb
  go_enter Tryd.func5, Tryd.ntmps5
  go_wp2_with fail
  generalize ((w.alloc (.cells #[.string key, .int .i64 da.kind, .int .u64 da.n, .string da.s, .int .i64 da.t.sec, .int .i64 da.t.nsec, .int .i64 da.t.off, .slice A len cap] 35)).alloc (.cells #[.string key', .int .i64 db.kind, .int .u64 db.n, .string db.s, .int .i64 db.t.sec, .int .i64 db.t.nsec, .int .i64 db.t.off, .slice A' len' cap'] 35)) = W at HX hW ⊢
  have HXA := Lib.hid HX.1
  have HXB := Lib.hid HX.2
  clear HX
  go_wp2_with (first
    | (go_at_call 12; (with_reducible refine (CFa.out _).mono ?_); rintro e w2 ⟨rfl, hb2⟩; have hB2 := keeps_below hW hb2; have hK2 := Lib.hid (keeps_of_below hb2); obtain ⟨p0, p1, p2, p3, p4, p5, p6, p7⟩ := HXB.out.keep hK2.out)
    | (go_at_call 12; (with_reducible refine (CFb.out _).mono ?_); rintro e w3 ⟨rfl, hb3⟩; have hB3 := keeps_below hB2 hb3; have hK3 := Lib.hid (hK2.out.trans (keeps_of_below hb3)); clear p0 p1 p2 p3 p4 p5 p6 p7; obtain ⟨p0, p1, p2, p3, p4, p5, p6, p7⟩ := HXA.out.keep hK3.out; obtain ⟨q0, q1, q2, q3, q4, q5, q6, q7⟩ := HXB.out.keep hK3.out)
    | (go_at_call 8; (refine (CN.out _ _ (rvs2 (keeps_of_below hB3) HRA.out HRB.out)).mono ?_); rintro e w4 ⟨rfl, hb4⟩; have hB4 := keeps_below (keeps_below hB3 ((Below.refl _ _).alloc (Nat.le_refl _) _)) hb4; have hK4 := Lib.hid ((hK3.out.trans (keeps_alloc _ _)).trans (keeps_of_below hb4)); clear hb4 p0 p1 p2 p3 p4 p5 p6 p7 q0 q1 q2 q3 q4 q5 q6 q7; obtain ⟨p0, p1, p2, p3, p4, p5, p6, p7⟩ := HXA.out.keep hK4.out; obtain ⟨q0, q1, q2, q3, q4, q5, q6, q7⟩ := HXB.out.keep hK4.out))
  go_ret
  exact ⟨rfl, hB4⟩

set_option maxRecDepth 100000 in
set_option maxHeartbeats 1000000 in
theorem lawAttr_no4 (cFa : ∀ wx, Calls Tryd.prog 12 #[.agg #[.string key, .int .i64 da.kind, .int .u64 da.n, .string da.s, .int .i64 da.t.sec, .int .i64 da.t.nsec, .int .i64 da.t.off, .slice A len cap]] wx (BoolEnd true wx)) (cFb : ∀ wx, Calls Tryd.prog 12 #[.agg #[.string key', .int .i64 db.kind, .int .u64 db.n, .string db.s, .int .i64 db.t.sec, .int .i64 db.t.nsec, .int .i64 db.t.off, .slice A' len' cap']] wx (BoolEnd true wx))
    (ha : RS w da.l A len) (hb : RS w db.l A' len') (cN : ∀ wx b, RVs wx [da, db] b 0 → Calls Tryd.prog 8 #[.slice (some ⟨b, 0, none⟩) 2 2] wx (BoolEnd true wx)) (hk : (65536 : Int) < (key.size : Int)) (hkz : key.size ≤ 140737488355328) :
    Calls Tryd.prog 5 #[.agg #[.string key, .int .i64 da.kind, .int .u64 da.n, .string da.s, .int .i64 da.t.sec, .int .i64 da.t.nsec, .int .i64 da.t.off, .slice A len cap], .agg #[.string key', .int .i64 db.kind, .int .u64 db.n, .string db.s, .int .i64 db.t.sec, .int .i64 db.t.nsec, .int .i64 db.t.off, .slice A' len' cap']] w (YesEnd w) := by
  unfold YesEnd
  have CFa := Lib.hid cFa
  have CFb := Lib.hid cFb
  have hW : Below w.heap.size w ((w.alloc (.cells #[.string key, .int .i64 da.kind, .int .u64 da.n, .string da.s, .int .i64 da.t.sec, .int .i64 da.t.nsec, .int .i64 da.t.off, .slice A len cap] 35)).alloc (.cells #[.string key', .int .i64 db.kind, .int .u64 db.n, .string db.s, .int .i64 db.t.sec, .int .i64 db.t.nsec, .int .i64 db.t.off, .slice A' len' cap'] 35)) := (by repeat' (first | with_reducible assumption | with_reducible exact Below.refl _ _ | with_reducible refine Below.setCell ?_ ?_ _ | with_reducible refine Below.alloc ?_ ?_ _ | with_reducible refine Below.drew ?_ | with_reducible refine below_drewN ?_ _ | omega | (simp; done) | (simp; omega)))
  have HX : ABox ((w.alloc (.cells #[.string key, .int .i64 da.kind, .int .u64 da.n, .string da.s, .int .i64 da.t.sec, .int .i64 da.t.nsec, .int .i64 da.t.off, .slice A len cap] 35)).alloc (.cells #[.string key', .int .i64 db.kind, .int .u64 db.n, .string db.s, .int .i64 db.t.sec, .int .i64 db.t.nsec, .int .i64 db.t.off, .slice A' len' cap'] 35)) w.heap.size key da A len cap ∧ ABox ((w.alloc (.cells #[.string key, .int .i64 da.kind, .int .u64 da.n, .string da.s, .int .i64 da.t.sec, .int .i64 da.t.nsec, .int .i64 da.t.off, .slice A len cap] 35)).alloc (.cells #[.string key', .int .i64 db.kind, .int .u64 db.n, .string db.s, .int .i64 db.t.sec, .int .i64 db.t.nsec, .int .i64 db.t.off, .slice A' len' cap'] 35)) (w.heap.size + 1) key' db A' len' cap' := ⟨(abox_new w _ key da A len cap _ rfl).keep (keeps_alloc _ _), abox_new _ _ key' db A' len' cap' _ (by simp)⟩
  have CN := Lib.hid cN
  have HRA := Lib.hid ha
  have HRB := Lib.hid hb
  clear cFa cFb cN ha hb
  go_enter Tryd.func5, Tryd.ntmps5
  go_wp2_with fail
  generalize ((w.alloc (.cells #[.string key, .int .i64 da.kind, .int .u64 da.n, .string da.s, .int .i64 da.t.sec, .int .i64 da.t.nsec, .int .i64 da.t.off, .slice A len cap] 35)).alloc (.cells #[.string key', .int .i64 db.kind, .int .u64 db.n, .string db.s, .int .i64 db.t.sec, .int .i64 db.t.nsec, .int .i64 db.t.off, .slice A' len' cap'] 35)) = W at HX hW ⊢
  have HXA := Lib.hid HX.1
  have HXB := Lib.hid HX.2
  clear HX
  go_wp2_with (first
    | (go_at_call 12; (with_reducible refine (CFa.out _).mono ?_); rintro e w2 ⟨rfl, hb2⟩; have hB2 := keeps_below hW hb2; have hK2 := Lib.hid (keeps_of_below hb2); obtain ⟨p0, p1, p2, p3, p4, p5, p6, p7⟩ := HXB.out.keep hK2.out)
    | (go_at_call 12; (with_reducible refine (CFb.out _).mono ?_); rintro e w3 ⟨rfl, hb3⟩; have hB3 := keeps_below hB2 hb3; have hK3 := Lib.hid (hK2.out.trans (keeps_of_below hb3)); clear p0 p1 p2 p3 p4 p5 p6 p7; obtain ⟨p0, p1, p2, p3, p4, p5, p6, p7⟩ := HXA.out.keep hK3.out; obtain ⟨q0, q1, q2, q3, q4, q5, q6, q7⟩ := HXB.out.keep hK3.out)
    | (go_at_call 8; (refine (CN.out _ _ (rvs2 (keeps_of_below hB3) HRA.out HRB.out)).mono ?_); rintro e w4 ⟨rfl, hb4⟩; have hB4 := keeps_below (keeps_below hB3 ((Below.refl _ _).alloc (Nat.le_refl _) _)) hb4; have hK4 := Lib.hid ((hK3.out.trans (keeps_alloc _ _)).trans (keeps_of_below hb4)); clear hb4 p0 p1 p2 p3 p4 p5 p6 p7 q0 q1 q2 q3 q4 q5 q6 q7; obtain ⟨p0, p1, p2, p3, p4, p5, p6, p7⟩ := HXA.out.keep hK4.out; obtain ⟨q0, q1, q2, q3, q4, q5, q6, q7⟩ := HXB.out.keep hK4.out))
  go_ret
  exact ⟨rfl, hB4⟩

set_option maxRecDepth 100000 in
set_option maxHeartbeats 1000000 in
theorem lawAttr_no5 (cFa : ∀ wx, Calls Tryd.prog 12 #[.agg #[.string key, .int .i64 da.kind, .int .u64 da.n, .string da.s, .int .i64 da.t.sec, .int .i64 da.t.nsec, .int .i64 da.t.off, .slice A len cap]] wx (BoolEnd true wx)) (cFb : ∀ wx, Calls Tryd.prog 12 #[.agg #[.string key', .int .i64 db.kind, .int .u64 db.n, .string db.s, .int .i64 db.t.sec, .int .i64 db.t.nsec, .int .i64 db.t.off, .slice A' len' cap']] wx (BoolEnd true wx))
    (ha : RS w da.l A len) (hb : RS w db.l A' len') (cN : ∀ wx b, RVs wx [da, db] b 0 → Calls Tryd.prog 8 #[.slice (some ⟨b, 0, none⟩) 2 2] wx (BoolEnd true wx)) (hk : ¬ (65536 : Int) < (key.size : Int)) (hk' : (65536 : Int) < (key'.size : Int)) (hkz : key'.size ≤ 140737488355328) :
    Calls Tryd.prog 5 #[.agg #[.string key, .int .i64 da.kind, .int .u64 da.n, .string da.s, .int .i64 da.t.sec, .int .i64 da.t.nsec, .int .i64 da.t.off, .slice A len cap], .agg #[.string key', .int .i64 db.kind, .int .u64 db.n, .string db.s, .int .i64 db.t.sec, .int .i64 db.t.nsec, .int .i64 db.t.off, .slice A' len' cap']] w (YesEnd w) := by
  unfold YesEnd
  have CFa := Lib.hid cFa
  have CFb := Lib.hid cFb
  have hW : Below w.heap.size w ((w.alloc (.cells #[.string key, .int .i64 da.kind, .int .u64 da.n, .string da.s, .int .i64 da.t.sec, .int .i64 da.t.nsec, .int .i64 da.t.off, .slice A len cap] 35)).alloc (.cells #[.string key', .int .i64 db.kind, .int .u64 db.n, .string db.s, .int .i64 db.t.sec, .int .i64 db.t.nsec, .int .i64 db.t.off, .slice A' len' cap'] 35)) := (by repeat' (first | with_reducible assumption | with_reducible exact Below.refl _ _ | with_reducible refine Below.setCell ?_ ?_ _ | with_reducible refine Below.alloc ?_ ?_ _ | with_reducible refine Below.drew ?_ | with_reducible refine below_drewN ?_ _ | omega | (simp; done) | (simp; omega)))
  have HX : ABox ((w.alloc (.cells #[.string key, .int .i64 da.kind, .int .u64 da.n, .string da.s, .int .i64 da.t.sec, .int .i64 da.t.nsec, .int .i64 da.t.off, .slice A len cap] 35)).alloc (.cells #[.string key', .int .i64 db.kind, .int .u64 db.n, .string db.s, .int .i64 db.t.sec, .int .i64 db.t.nsec, .int .i64 db.t.off, .slice A' len' cap'] 35)) w.heap.size key da A len cap ∧ ABox ((w.alloc (.cells #[.string key, .int .i64 da.kind, .int .u64 da.n, .string da.s, .int .i64 da.t.sec, .int .i64 da.t.nsec, .int .i64 da.t.off, .slice A len cap] 35)).alloc (.cells #[.string key', .int .i64 db.kind, .int .u64 db.n, .string db.s, .int .i64 db.t.sec, .int .i64 db.t.nsec, .int .i64 db.t.off, .slice A' len' cap'] 35)) (w.heap.size + 1) key' db A' len' cap' := ⟨(abox_new w _ key da A len cap _ rfl).keep (keeps_alloc _ _), abox_new _ _ key' db A' len' cap' _ (by simp)⟩
  have CN := Lib.hid cN
  have HRA := Lib.hid ha
  have HRB := Lib.hid hb
  clear cFa cFb cN ha hb
  go_enter Tryd.func5, Tryd.ntmps5
  go_wp2_with fail
  generalize ((w.alloc (.cells #[.string key, .int .i64 da.kind, .int .u64 da.n, .string da.s, .int .i64 da.t.sec, .int .i64 da.t.nsec, .int .i64 da.t.off, .slice A len cap] 35)).alloc (.cells #[.string key', .int .i64 db.kind, .int .u64 db.n, .string db.s, .int .i64 db.t.sec, .int .i64 db.t.nsec, .int .i64 db.t.off, .slice A' len' cap'] 35)) = W at HX hW ⊢
  have HXA := Lib.hid HX.1
  have HXB := Lib.hid HX.2
  clear HX
  go_wp2_with (first
    | (go_at_call 12; (with_reducible refine (CFa.out _).mono ?_); rintro e w2 ⟨rfl, hb2⟩; have hB2 := keeps_below hW hb2; have hK2 := Lib.hid (keeps_of_below hb2); obtain ⟨p0, p1, p2, p3, p4, p5, p6, p7⟩ := HXB.out.keep hK2.out)
    | (go_at_call 12; (with_reducible refine (CFb.out _).mono ?_); rintro e w3 ⟨rfl, hb3⟩; have hB3 := keeps_below hB2 hb3; have hK3 := Lib.hid (hK2.out.trans (keeps_of_below hb3)); clear p0 p1 p2 p3 p4 p5 p6 p7; obtain ⟨p0, p1, p2, p3, p4, p5, p6, p7⟩ := HXA.out.keep hK3.out; obtain ⟨q0, q1, q2, q3, q4, q5, q6, q7⟩ := HXB.out.keep hK3.out)
    | (go_at_call 8; (refine (CN.out _ _ (rvs2 (keeps_of_below hB3) HRA.out HRB.out)).mono ?_); rintro e w4 ⟨rfl, hb4⟩; have hB4 := keeps_below (keeps_below hB3 ((Below.refl _ _).alloc (Nat.le_refl _) _)) hb4; have hK4 := Lib.hid ((hK3.out.trans (keeps_alloc _ _)).trans (keeps_of_below hb4)); clear hb4 p0 p1 p2 p3 p4 p5 p6 p7 q0 q1 q2 q3 q4 q5 q6 q7; obtain ⟨p0, p1, p2, p3, p4, p5, p6, p7⟩ := HXA.out.keep hK4.out; obtain ⟨q0, q1, q2, q3, q4, q5, q6, q7⟩ := HXB.out.keep hK4.out))
  go_ret
  exact ⟨rfl, hB4⟩

set_option maxRecDepth 100000 in
set_option maxHeartbeats 1000000 in
theorem lawAttr_core (cFa : ∀ wx, Calls Tryd.prog 12 #[.agg #[.string key, .int .i64 da.kind, .int .u64 da.n, .string da.s, .int .i64 da.t.sec, .int .i64 da.t.nsec, .int .i64 da.t.off, .slice A len cap]] wx (BoolEnd true wx)) (cFb : ∀ wx, Calls Tryd.prog 12 #[.agg #[.string key', .int .i64 db.kind, .int .u64 db.n, .string db.s, .int .i64 db.t.sec, .int .i64 db.t.nsec, .int .i64 db.t.off, .slice A' len' cap']] wx (BoolEnd true wx))
    (ha : RS w da.l A len) (hb : RS w db.l A' len') (cN : ∀ wx b, RVs wx [da, db] b 0 → Calls Tryd.prog 8 #[.slice (some ⟨b, 0, none⟩) 2 2] wx (BoolEnd true wx)) (hk : ¬ (65536 : Int) < (key.size : Int)) (hk' : ¬ (65536 : Int) < (key'.size : Int))
    (ta tb : GVal) (cTa : ∀ wx, Keeps w wx → Calls Tryd.prog 10 #[vVal da A len cap] wx (TidyPost ta wx)) (cTb : ∀ wx, Keeps w wx → Calls Tryd.prog 10 #[vVal db A' len' cap'] wx (TidyPost tb wx))
    (q : Bool × Bool) (cQ : ∀ wx A1 A2 l1 c1 l2 c2, RS wx ta.l A1 l1 → RS wx tb.l A2 l2 → Calls Tryd.prog 13 #[vAttr key ta A1 l1 c1, vAttr key' tb A2 l2 c2] wx (TwoPost q wx))
    (r : Bool × Bool) (cI : ∀ wx, Keeps w wx → Calls Tryd.prog 14 #[vAttr key da A len cap, vAttr key' db A' len' cap'] wx (PairEnd r wx)) (hqr : Same2 q r) :
    Calls Tryd.prog 5 #[.agg #[.string key, .int .i64 da.kind, .int .u64 da.n, .string da.s, .int .i64 da.t.sec, .int .i64 da.t.nsec, .int .i64 da.t.off, .slice A len cap], .agg #[.string key', .int .i64 db.kind, .int .u64 db.n, .string db.s, .int .i64 db.t.sec, .int .i64 db.t.nsec, .int .i64 db.t.off, .slice A' len' cap']] w (YesEnd w) := by
  unfold YesEnd
  have CFa := Lib.hid cFa
  have CFb := Lib.hid cFb
  have hW : Below w.heap.size w ((w.alloc (.cells #[.string key, .int .i64 da.kind, .int .u64 da.n, .string da.s, .int .i64 da.t.sec, .int .i64 da.t.nsec, .int .i64 da.t.off, .slice A len cap] 35)).alloc (.cells #[.string key', .int .i64 db.kind, .int .u64 db.n, .string db.s, .int .i64 db.t.sec, .int .i64 db.t.nsec, .int .i64 db.t.off, .slice A' len' cap'] 35)) := (by repeat' (first | with_reducible assumption | with_reducible exact Below.refl _ _ | with_reducible refine Below.setCell ?_ ?_ _ | with_reducible refine Below.alloc ?_ ?_ _ | with_reducible refine Below.drew ?_ | with_reducible refine below_drewN ?_ _ | omega | (simp; done) | (simp; omega)))
  have HX : ABox ((w.alloc (.cells #[.string key, .int .i64 da.kind, .int .u64 da.n, .string da.s, .int .i64 da.t.sec, .int .i64 da.t.nsec, .int .i64 da.t.off, .slice A len cap] 35)).alloc (.cells #[.string key', .int .i64 db.kind, .int .u64 db.n, .string db.s, .int .i64 db.t.sec, .int .i64 db.t.nsec, .int .i64 db.t.off, .slice A' len' cap'] 35)) w.heap.size key da A len cap ∧ ABox ((w.alloc (.cells #[.string key, .int .i64 da.kind, .int .u64 da.n, .string da.s, .int .i64 da.t.sec, .int .i64 da.t.nsec, .int .i64 da.t.off, .slice A len cap] 35)).alloc (.cells #[.string key', .int .i64 db.kind, .int .u64 db.n, .string db.s, .int .i64 db.t.sec, .int .i64 db.t.nsec, .int .i64 db.t.off, .slice A' len' cap'] 35)) (w.heap.size + 1) key' db A' len' cap' := ⟨(abox_new w _ key da A len cap _ rfl).keep (keeps_alloc _ _), abox_new _ _ key' db A' len' cap' _ (by simp)⟩
  have CN := Lib.hid cN
  have HRA := Lib.hid ha
  have HRB := Lib.hid hb
  have CTa := Lib.hid cTa
  have CTb := Lib.hid cTb
  have CQ := Lib.hid cQ
  have CI := Lib.hid cI
  obtain ⟨d1, e2⟩ := q
  obtain ⟨e1, f2⟩ := r
  obtain ⟨h2, h1⟩ := hqr
  simp only at h1 h2
  subst h2
  unfold vVal at CTa CTb
  unfold vAttr at CI CQ
  clear cTa cTb cQ cI
  clear cFa cFb cN ha hb
  go_enter Tryd.func5, Tryd.ntmps5
  go_wp2_with fail
  generalize ((w.alloc (.cells #[.string key, .int .i64 da.kind, .int .u64 da.n, .string da.s, .int .i64 da.t.sec, .int .i64 da.t.nsec, .int .i64 da.t.off, .slice A len cap] 35)).alloc (.cells #[.string key', .int .i64 db.kind, .int .u64 db.n, .string db.s, .int .i64 db.t.sec, .int .i64 db.t.nsec, .int .i64 db.t.off, .slice A' len' cap'] 35)) = W at HX hW ⊢
  have HXA := Lib.hid HX.1
  have HXB := Lib.hid HX.2
  clear HX
  go_wp2_with (first
    | (go_at_call 12; (with_reducible refine (CFa.out _).mono ?_); rintro e w2 ⟨rfl, hb2⟩; have hB2 := keeps_below hW hb2; have hK2 := Lib.hid (keeps_of_below hb2); obtain ⟨p0, p1, p2, p3, p4, p5, p6, p7⟩ := HXB.out.keep hK2.out)
    | (go_at_call 12; (with_reducible refine (CFb.out _).mono ?_); rintro e w3 ⟨rfl, hb3⟩; have hB3 := keeps_below hB2 hb3; have hK3 := Lib.hid (hK2.out.trans (keeps_of_below hb3)); clear p0 p1 p2 p3 p4 p5 p6 p7; obtain ⟨p0, p1, p2, p3, p4, p5, p6, p7⟩ := HXA.out.keep hK3.out; obtain ⟨q0, q1, q2, q3, q4, q5, q6, q7⟩ := HXB.out.keep hK3.out)
    | (go_at_call 8; (refine (CN.out _ _ (rvs2 (keeps_of_below hB3) HRA.out HRB.out)).mono ?_); rintro e w4 ⟨rfl, hb4⟩; have hB4 := keeps_below (keeps_below hB3 ((Below.refl _ _).alloc (Nat.le_refl _) _)) hb4; have hK4 := Lib.hid ((hK3.out.trans (keeps_alloc _ _)).trans (keeps_of_below hb4)); clear hb4 p0 p1 p2 p3 p4 p5 p6 p7 q0 q1 q2 q3 q4 q5 q6 q7; obtain ⟨p0, p1, p2, p3, p4, p5, p6, p7⟩ := HXA.out.keep hK4.out; obtain ⟨q0, q1, q2, q3, q4, q5, q6, q7⟩ := HXB.out.keep hK4.out))
  have HS := Lib.hid (fun wx (hx : Keeps w4 wx) => And.intro (HXA.out.keep (hK4.out.trans hx)) (HXB.out.keep (hK4.out.trans hx)))
  go_region_held3 (fun wx => wx.cell? ⟨w.heap.size, 0, none⟩ = some (.string key) ∧ wx.cell? ⟨w.heap.size, 1, none⟩ = some (.int .i64 da.kind) ∧ wx.cell? ⟨w.heap.size, 2, none⟩ = some (.int .u64 da.n) ∧ wx.cell? ⟨w.heap.size, 3, none⟩ = some (.string da.s) ∧ wx.cell? ⟨w.heap.size, 4, none⟩ = some (.int .i64 da.t.sec) ∧ wx.cell? ⟨w.heap.size, 5, none⟩ = some (.int .i64 da.t.nsec) ∧ wx.cell? ⟨w.heap.size, 6, none⟩ = some (.int .i64 da.t.off) ∧ wx.cell? ⟨w.heap.size, 7, none⟩ = some (.slice A len cap) ∧ wx.cell? ⟨w.heap.size + 1, 0, none⟩ = some (.string key') ∧ wx.cell? ⟨w.heap.size + 1, 1, none⟩ = some (.int .i64 db.kind) ∧ wx.cell? ⟨w.heap.size + 1, 2, none⟩ = some (.int .u64 db.n) ∧ wx.cell? ⟨w.heap.size + 1, 3, none⟩ = some (.string db.s) ∧ wx.cell? ⟨w.heap.size + 1, 4, none⟩ = some (.int .i64 db.t.sec) ∧ wx.cell? ⟨w.heap.size + 1, 5, none⟩ = some (.int .i64 db.t.nsec) ∧ wx.cell? ⟨w.heap.size + 1, 6, none⟩ = some (.int .i64 db.t.off) ∧ wx.cell? ⟨w.heap.size + 1, 7, none⟩ = some (.slice A' len' cap'))
    (first | exact cells16 (HS.out _ hK7.out) | exact cells16 (HS.out _ hK6.out) | exact cells16 (HS.out _ hK5.out) | exact cells16 (HS.out _ (keeps_drew _)))
    (first
      | (go_at_call 10; ((with_reducible refine (CTa.out _ ((keeps_of_below hB4).trans (keeps_drew _))).mono ?_); rintro e w5 ⟨A1, l1, c1, rfl, hr5, hb5⟩; have hK5 := Lib.hid (keeps_of_below hb5); have hR5 := Lib.hid hr5.rs; have hB5 := keeps_below hB4.drew hb5; clear hr5 hb5; unfold vVal))
      | (go_at_call 10; ((with_reducible refine (CTb.out _ (keeps_of_below hB5)).mono ?_); rintro e w6 ⟨A2, l2, c2, rfl, hr6, hb6⟩; have hK56 := Lib.hid (keeps_of_below hb6); have hK6 := Lib.hid (hK5.out.trans hK56.out); have hR6 := Lib.hid hr6.rs; have hB6 := keeps_below hB5 hb6; clear hr6 hb6; unfold vVal))
      | (go_at_call 13; ((refine (CQ.out _ _ _ _ _ _ _ (hR5.out.keep hK56.out) hR6.out).mono ?_); rintro e w7 ⟨rfl, hb7⟩; have hK7 := Lib.hid (hK6.out.trans (keeps_of_below hb7)); have hB7 := keeps_below hB6 hb7; clear hb7)))
  clear p0 p1 p2 p3 p4 p5 p6 p7 q0 q1 q2 q3 q4 q5 q6 q7
  obtain ⟨⟨p0, p1, p2, p3, p4, p5, p6, p7⟩, ⟨q0, q1, q2, q3, q4, q5, q6, q7⟩⟩ := HS.out _ hK7.out
  have H1 := Lib.hid h1
  clear h1
  cases e2
  · obtain rfl := H1.out rfl
    cases d1
    all_goals
      go_wp2_with (go_at_call 14; (refine (CI.out _ (keeps_of_below hB7)).mono ?_); rintro e w8 ⟨rfl, hb8⟩; have hB8 := keeps_below hB7 hb8; clear hb8)
      go_ret
      exact ⟨rfl, hB8⟩
  · go_wp2_with (go_at_call 14; (refine (CI.out _ (keeps_of_below hB7)).mono ?_); rintro e w8 ⟨rfl, hb8⟩; have hB8 := keeps_below hB7 hb8; clear hb8)
    go_ret
    exact ⟨rfl, hB8⟩

end

/-- laws.FnVaAttrEqual. -/
theorem lawAttr_any (key key' : ByteArray) (da db : GVal) (w : World) (A A' : Option Addr) (len cap len' cap' : Nat) (hkz : key.size ≤ 140737488355328) (hkz' : key'.size ≤ 140737488355328) (wa : da.wf) (wb : db.wf) (ha : RS w da.l A len) (hb : RS w db.l A' len') :
    Calls Tryd.prog 5 #[.agg #[.string key, .int .i64 da.kind, .int .u64 da.n, .string da.s, .int .i64 da.t.sec, .int .i64 da.t.nsec, .int .i64 da.t.off, .slice A len cap], .agg #[.string key', .int .i64 db.kind, .int .u64 db.n, .string db.s, .int .i64 db.t.sec, .int .i64 db.t.nsec, .int .i64 db.t.off, .slice A' len' cap']] w (YesEnd w) := by
  have cFa := fun wx => fits4_any key da wx A len cap hkz
  have cFb := fun wx => fits4_any key' db wx A' len' cap' hkz'
  cases h1 : fits4 key with
  | false => rw [h1] at cFa; exact lawAttr_no1 key key' da db w A A' len cap len' cap' cFa
  | true =>
    rw [h1] at cFa
    cases h2 : fits4 key' with
    | false => rw [h2] at cFb; exact lawAttr_no2 key key' da db w A A' len cap len' cap' cFa cFb
    | true =>
      rw [h2] at cFb
      have cN := fun wx b h => fine_any [da, db] wx b 0 2 2 rfl (by omega) (by simp only [List.mem_cons, List.not_mem_nil, or_false, forall_eq_or_imp, forall_eq]; exact ⟨wa, wb⟩) h
      by_cases h3 : 0 ≤ fineL [da, db] 65536
      · rw [decide_eq_true h3] at cN
        by_cases k1 : (65536 : Int) < (key.size : Int)
        · exact lawAttr_no4 key key' da db w A A' len cap len' cap' cFa cFb ha hb cN k1 hkz
        by_cases k2 : (65536 : Int) < (key'.size : Int)
        · exact lawAttr_no5 key key' da db w A A' len cap len' cap' cFa cFb ha hb cN k1 k2 hkz'
        unfold fineL fineL fineL at h3
        rw [if_neg (by omega)] at h3
        have h4 : 0 ≤ vaLeft da 20 65536 := by
          by_cases h : vaLeft da 20 65536 < 0
          · rw [if_pos h] at h3; exact h3
          · omega
        rw [if_neg (by omega)] at h3
        obtain ⟨ga, sa⟩ := left_good da 20 65536 h4
        obtain ⟨gb, sb⟩ := left_good db 20 _ h3
        have sza : da.size ≤ 65536 := by omega
        have szb : db.size ≤ 65536 := by omega
        refine lawAttr_core key key' da db w A A' len cap len' cap' cFa cFb ha hb cN k1 k2 (vaTidy da) (vaTidy db) (fun wx hx => tidy_any da wx A len cap (by omega) (ha.keep hx)) (fun wx hx => tidy_any db wx A' len' cap' (by omega) (hb.keep hx))
          (attrEqual key (vaTidy da) key' (vaTidy db)) (fun wx A1 A2 l1 c1 l2 c2 h1 h2 => attrEq_val key key' (vaTidy da) (vaTidy db) (eq_any (vaTidy da) (by have := tsize da; omega)) wx A1 A2 l1 c1 l2 c2 h1 h2)
          (sAttrEqual key (valueOf none da) key' (valueOf none db)) (fun wx hx => implAttr_any _ _ key key' da db _ _ _ wx A A' len cap len' cap' (fun wy hy => (valueOf_any none da wy A len cap (by omega) wa (ha.keep (hx.trans hy))).mono fun e w' h => valPostN h) (fun wy hy => (valueOf_any none db wy A' len' cap' (by omega) wb (hb.keep (hx.trans hy))).mono fun e w' h => valPostN h)
            (fun wy x y x' y' h => ?_)) ?_
        · obtain ⟨P, P', hd, h1, h2⟩ := h
          exact attrS_val key key' _ _ (equal_any _) hd (quiet_of da wa) (quiet_of db wb) wy x y x' y' h1 h2
        · have hs := same_size none none _ da (Nat.le_refl _) wa ga db wb gb
          unfold attrEqual sAttrEqual
          by_cases hk : key = key'
          · rw [if_neg (fun h => h hk), if_neg (fun h => h hk)]
            exact hs
          · rw [if_pos hk, if_pos hk]
            exact Same2.refl _
      · rw [decide_eq_false h3] at cN
        exact lawAttr_no3 key key' da db w A A' len cap len' cap' cFa cFb ha hb cN

end Go.Proofs.YtcgdnjigocknbaaDoor.Va

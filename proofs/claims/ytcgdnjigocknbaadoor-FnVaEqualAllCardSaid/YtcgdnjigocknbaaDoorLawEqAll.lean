/- The statement FnVaEqualAll: the walk. -/
import Derived.Test.YtcgdnjigocknbaaDoorIEqV
import Derived.Test.YtcgdnjigocknbaaDoorLawEq
import Derived.Deep.Cut
import Derived.Deep.DeepCutAuto
import Derived.Test.YtcgdnjigocknbaaDoorSym
namespace Go.Proofs.YtcgdnjigocknbaaDoor.Va
set_option linter.unusedVariables false
set_option linter.unusedSimpArgs false
open Go Go.RowKit

theorem rval_at {w : World} {b o : Nat} {d : GVal} {A : Option Addr} {len cap : Nat} (h0 : w.cell? ⟨b, o, none⟩ = some (.int .i64 d.kind)) (h1 : w.cell? ⟨b, o + 1, none⟩ = some (.int .u64 d.n)) (h2 : w.cell? ⟨b, o + 2, none⟩ = some (.string d.s)) (h3 : w.cell? ⟨b, o + 3, none⟩ = some (.int .i64 d.t.sec)) (h4 : w.cell? ⟨b, o + 4, none⟩ = some (.int .i64 d.t.nsec)) (h5 : w.cell? ⟨b, o + 5, none⟩ = some (.int .i64 d.t.off)) (h6 : w.cell? ⟨b, o + 6, none⟩ = some (.slice A len cap)) (h : RS w d.l A len) : RVal w d b o := by
  obtain ⟨k, n, s, t, l⟩ := d
  unfold RVal
  exact ⟨h0, h1, h2, h3, h4, h5, A, len, cap, h6, h.1, h.2⟩

theorem rvs3 {w wx : World} {t : TypeId} {da db dc : GVal} {A A' A'' : Option Addr} {len cap len' cap' len'' cap'' : Nat} (hk : Keeps w wx) (ha : RS w da.l A len) (hb : RS w db.l A' len') (hc : RS w dc.l A'' len'') :
    RVs (wx.alloc (.cells #[.int .i64 da.kind, .int .u64 da.n, .string da.s, .int .i64 da.t.sec, .int .i64 da.t.nsec, .int .i64 da.t.off, .slice A len cap, .int .i64 db.kind, .int .u64 db.n, .string db.s, .int .i64 db.t.sec, .int .i64 db.t.nsec, .int .i64 db.t.off, .slice A' len' cap', .int .i64 dc.kind, .int .u64 dc.n, .string dc.s, .int .i64 dc.t.sec, .int .i64 dc.t.nsec, .int .i64 dc.t.off, .slice A'' len'' cap''] t)) [da, db, dc] wx.heap.size 0 := by
  have hk' := hk.trans (keeps_alloc wx (.cells #[.int .i64 da.kind, .int .u64 da.n, .string da.s, .int .i64 da.t.sec, .int .i64 da.t.nsec, .int .i64 da.t.off, .slice A len cap, .int .i64 db.kind, .int .u64 db.n, .string db.s, .int .i64 db.t.sec, .int .i64 db.t.nsec, .int .i64 db.t.off, .slice A' len' cap', .int .i64 dc.kind, .int .u64 dc.n, .string dc.s, .int .i64 dc.t.sec, .int .i64 dc.t.nsec, .int .i64 dc.t.off, .slice A'' len'' cap''] t))
  exact ⟨rval_at (cell_new _ _ _ _ _ _ rfl rfl) (cell_new _ _ _ _ _ _ rfl rfl) (cell_new _ _ _ _ _ _ rfl rfl) (cell_new _ _ _ _ _ _ rfl rfl) (cell_new _ _ _ _ _ _ rfl rfl) (cell_new _ _ _ _ _ _ rfl rfl) (cell_new _ _ _ _ _ _ rfl rfl) (ha.keep hk'),
    rval_at (cell_new _ _ _ _ _ _ rfl rfl) (cell_new _ _ _ _ _ _ rfl rfl) (cell_new _ _ _ _ _ _ rfl rfl) (cell_new _ _ _ _ _ _ rfl rfl) (cell_new _ _ _ _ _ _ rfl rfl) (cell_new _ _ _ _ _ _ rfl rfl) (cell_new _ _ _ _ _ _ rfl rfl) (hb.keep hk'),
    rval_at (cell_new _ _ _ _ _ _ rfl rfl) (cell_new _ _ _ _ _ _ rfl rfl) (cell_new _ _ _ _ _ _ rfl rfl) (cell_new _ _ _ _ _ _ rfl rfl) (cell_new _ _ _ _ _ _ rfl rfl) (cell_new _ _ _ _ _ _ rfl rfl) (cell_new _ _ _ _ _ _ rfl rfl) (hc.keep hk'), trivial⟩

/-- A value in a group, with the unit behind it. -/
theorem rs_wrap {wx : World} {t : TypeId} {da : GVal} {A : Option Addr} {len cap : Nat} (n : Nat) (hn : n = wx.heap.size) (ha : RS wx da.l A len) :
    RS (wx.alloc (.cells #[.string ⟨#[107]⟩, .int .i64 da.kind, .int .u64 da.n, .string da.s, .int .i64 da.t.sec, .int .i64 da.t.nsec, .int .i64 da.t.off, .slice A len cap, .string ⟨#[108]⟩, .int .i64 4, .int .u64 1, .string ⟨#[]⟩, .int .i64 0, .int .i64 0, .int .i64 0, .slice none 0 0] t)) (wrapV da).l (some ⟨n, 0, none⟩) 2 := by
  subst hn
  have hk' := keeps_alloc wx (.cells #[.string ⟨#[107]⟩, .int .i64 da.kind, .int .u64 da.n, .string da.s, .int .i64 da.t.sec, .int .i64 da.t.nsec, .int .i64 da.t.off, .slice A len cap, .string ⟨#[108]⟩, .int .i64 4, .int .u64 1, .string ⟨#[]⟩, .int .i64 0, .int .i64 0, .int .i64 0, .slice none 0 0] t)
  refine ⟨rfl, fun _ => ⟨_, 0, rfl, ?_⟩⟩
  unfold wrapV
  simp only [l_mk]
  unfold RAs RAs RAs
  exact ⟨cell_new _ _ _ _ _ _ rfl rfl, rval_at (cell_new _ _ _ _ _ _ rfl rfl) (cell_new _ _ _ _ _ _ rfl rfl) (cell_new _ _ _ _ _ _ rfl rfl) (cell_new _ _ _ _ _ _ rfl rfl) (cell_new _ _ _ _ _ _ rfl rfl) (cell_new _ _ _ _ _ _ rfl rfl) (cell_new _ _ _ _ _ _ rfl rfl) (ha.keep hk'),
    cell_new _ _ _ _ _ _ rfl rfl, rval_at (d := unitV) (cell_new _ _ _ _ _ _ rfl rfl) (cell_new _ _ _ _ _ _ rfl rfl) (cell_new _ _ _ _ _ _ rfl rfl) (cell_new _ _ _ _ _ _ rfl rfl) (cell_new _ _ _ _ _ _ rfl rfl) (cell_new _ _ _ _ _ _ rfl rfl) (cell_new _ _ _ _ _ _ rfl rfl) (RS.nil_ _ _), trivial⟩

@[go_sem] theorem fieldKind (k n : Int) (s : ByteArray) (a b c : Int) (A : Option Addr) (len cap : Nat) (w : World) : (Instr.field 27 (.agg #[.int .i64 k, .int .u64 n, .string s, .int .i64 a, .int .i64 b, .int .i64 c, .slice A len cap]) 0).run Tryd.prog w = .ok (.int .i64 k) w := by kernel_rfl

section
variable (da db dc : GVal) (w : World) (A A' A'' : Option Addr) (len cap len' cap' len'' cap'' : Nat)

set_option maxRecDepth 100000 in
set_option maxHeartbeats 4000000 in
theorem lawEqAll_no1 (cFa : ∀ wx, Calls Tryd.prog 7 #[vVal da A len cap] wx (BoolEnd false wx)) :
    Calls Tryd.prog 4 #[vVal da A len cap, vVal db A' len' cap', vVal dc A'' len'' cap''] w (YesEnd w) := by
  unfold vVal at cFa ⊢
  unfold YesEnd
  have CFa := Lib.hid cFa
  have hW : Below w.heap.size w (((w.alloc (.cells #[.int .i64 da.kind, .int .u64 da.n, .string da.s, .int .i64 da.t.sec, .int .i64 da.t.nsec, .int .i64 da.t.off, .slice A len cap] 27)).alloc (.cells #[.int .i64 db.kind, .int .u64 db.n, .string db.s, .int .i64 db.t.sec, .int .i64 db.t.nsec, .int .i64 db.t.off, .slice A' len' cap'] 27)).alloc (.cells #[.int .i64 dc.kind, .int .u64 dc.n, .string dc.s, .int .i64 dc.t.sec, .int .i64 dc.t.nsec, .int .i64 dc.t.off, .slice A'' len'' cap''] 27)) := (by repeat' (first | with_reducible assumption | with_reducible exact Below.refl _ _ | with_reducible refine Below.setCell ?_ ?_ _ | with_reducible refine Below.alloc ?_ ?_ _ | with_reducible refine Below.drew ?_ | with_reducible refine below_drewN ?_ _ | omega | (simp; done) | (simp; omega)))
  have HX : Box (((w.alloc (.cells #[.int .i64 da.kind, .int .u64 da.n, .string da.s, .int .i64 da.t.sec, .int .i64 da.t.nsec, .int .i64 da.t.off, .slice A len cap] 27)).alloc (.cells #[.int .i64 db.kind, .int .u64 db.n, .string db.s, .int .i64 db.t.sec, .int .i64 db.t.nsec, .int .i64 db.t.off, .slice A' len' cap'] 27)).alloc (.cells #[.int .i64 dc.kind, .int .u64 dc.n, .string dc.s, .int .i64 dc.t.sec, .int .i64 dc.t.nsec, .int .i64 dc.t.off, .slice A'' len'' cap''] 27)) w.heap.size da A len cap ∧ Box (((w.alloc (.cells #[.int .i64 da.kind, .int .u64 da.n, .string da.s, .int .i64 da.t.sec, .int .i64 da.t.nsec, .int .i64 da.t.off, .slice A len cap] 27)).alloc (.cells #[.int .i64 db.kind, .int .u64 db.n, .string db.s, .int .i64 db.t.sec, .int .i64 db.t.nsec, .int .i64 db.t.off, .slice A' len' cap'] 27)).alloc (.cells #[.int .i64 dc.kind, .int .u64 dc.n, .string dc.s, .int .i64 dc.t.sec, .int .i64 dc.t.nsec, .int .i64 dc.t.off, .slice A'' len'' cap''] 27)) (w.heap.size + 1) db A' len' cap' ∧ Box (((w.alloc (.cells #[.int .i64 da.kind, .int .u64 da.n, .string da.s, .int .i64 da.t.sec, .int .i64 da.t.nsec, .int .i64 da.t.off, .slice A len cap] 27)).alloc (.cells #[.int .i64 db.kind, .int .u64 db.n, .string db.s, .int .i64 db.t.sec, .int .i64 db.t.nsec, .int .i64 db.t.off, .slice A' len' cap'] 27)).alloc (.cells #[.int .i64 dc.kind, .int .u64 dc.n, .string dc.s, .int .i64 dc.t.sec, .int .i64 dc.t.nsec, .int .i64 dc.t.off, .slice A'' len'' cap''] 27)) (w.heap.size + 1 + 1) dc A'' len'' cap'' :=
    ⟨((box_new w _ da A len cap _ rfl).keep (keeps_alloc _ _)).keep (keeps_alloc _ _), (box_new _ _ db A' len' cap' _ (by simp)).keep (keeps_alloc _ _), box_new _ _ dc A'' len'' cap'' _ (by simp)⟩
  clear cFa 
  go_enter Tryd.func4, Tryd.ntmps4
  go_wp2_with fail
  generalize (((w.alloc (.cells #[.int .i64 da.kind, .int .u64 da.n, .string da.s, .int .i64 da.t.sec, .int .i64 da.t.nsec, .int .i64 da.t.off, .slice A len cap] 27)).alloc (.cells #[.int .i64 db.kind, .int .u64 db.n, .string db.s, .int .i64 db.t.sec, .int .i64 db.t.nsec, .int .i64 db.t.off, .slice A' len' cap'] 27)).alloc (.cells #[.int .i64 dc.kind, .int .u64 dc.n, .string dc.s, .int .i64 dc.t.sec, .int .i64 dc.t.nsec, .int .i64 dc.t.off, .slice A'' len'' cap''] 27)) = W at HX hW ⊢
  have HXA := Lib.hid HX.1
  have HXB := Lib.hid HX.2.1
  have HXC := Lib.hid HX.2.2
  clear HX
  go_wp2_with (first
    | (go_at_call 7; (with_reducible refine (CFa.out _).mono ?_); rintro e w2 ⟨rfl, hb2⟩; have hB2 := keeps_below hW hb2; have hK2 := Lib.hid (keeps_of_below hb2); obtain ⟨p0, p1, p2, p3, p4, p5, p6⟩ := HXB.out.keep hK2.out))
  go_ret
  exact ⟨rfl, hB2⟩

set_option maxRecDepth 100000 in
set_option maxHeartbeats 4000000 in
theorem lawEqAll_no2 (cFa : ∀ wx, Calls Tryd.prog 7 #[vVal da A len cap] wx (BoolEnd true wx)) (cFb : ∀ wx, Calls Tryd.prog 7 #[vVal db A' len' cap'] wx (BoolEnd false wx)) :
    Calls Tryd.prog 4 #[vVal da A len cap, vVal db A' len' cap', vVal dc A'' len'' cap''] w (YesEnd w) := by
  unfold vVal at cFa cFb ⊢
  unfold YesEnd
  have CFa := Lib.hid cFa
  have CFb := Lib.hid cFb
  have hW : Below w.heap.size w (((w.alloc (.cells #[.int .i64 da.kind, .int .u64 da.n, .string da.s, .int .i64 da.t.sec, .int .i64 da.t.nsec, .int .i64 da.t.off, .slice A len cap] 27)).alloc (.cells #[.int .i64 db.kind, .int .u64 db.n, .string db.s, .int .i64 db.t.sec, .int .i64 db.t.nsec, .int .i64 db.t.off, .slice A' len' cap'] 27)).alloc (.cells #[.int .i64 dc.kind, .int .u64 dc.n, .string dc.s, .int .i64 dc.t.sec, .int .i64 dc.t.nsec, .int .i64 dc.t.off, .slice A'' len'' cap''] 27)) := (by repeat' (first | with_reducible assumption | with_reducible exact Below.refl _ _ | with_reducible refine Below.setCell ?_ ?_ _ | with_reducible refine Below.alloc ?_ ?_ _ | with_reducible refine Below.drew ?_ | with_reducible refine below_drewN ?_ _ | omega | (simp; done) | (simp; omega)))
  have HX : Box (((w.alloc (.cells #[.int .i64 da.kind, .int .u64 da.n, .string da.s, .int .i64 da.t.sec, .int .i64 da.t.nsec, .int .i64 da.t.off, .slice A len cap] 27)).alloc (.cells #[.int .i64 db.kind, .int .u64 db.n, .string db.s, .int .i64 db.t.sec, .int .i64 db.t.nsec, .int .i64 db.t.off, .slice A' len' cap'] 27)).alloc (.cells #[.int .i64 dc.kind, .int .u64 dc.n, .string dc.s, .int .i64 dc.t.sec, .int .i64 dc.t.nsec, .int .i64 dc.t.off, .slice A'' len'' cap''] 27)) w.heap.size da A len cap ∧ Box (((w.alloc (.cells #[.int .i64 da.kind, .int .u64 da.n, .string da.s, .int .i64 da.t.sec, .int .i64 da.t.nsec, .int .i64 da.t.off, .slice A len cap] 27)).alloc (.cells #[.int .i64 db.kind, .int .u64 db.n, .string db.s, .int .i64 db.t.sec, .int .i64 db.t.nsec, .int .i64 db.t.off, .slice A' len' cap'] 27)).alloc (.cells #[.int .i64 dc.kind, .int .u64 dc.n, .string dc.s, .int .i64 dc.t.sec, .int .i64 dc.t.nsec, .int .i64 dc.t.off, .slice A'' len'' cap''] 27)) (w.heap.size + 1) db A' len' cap' ∧ Box (((w.alloc (.cells #[.int .i64 da.kind, .int .u64 da.n, .string da.s, .int .i64 da.t.sec, .int .i64 da.t.nsec, .int .i64 da.t.off, .slice A len cap] 27)).alloc (.cells #[.int .i64 db.kind, .int .u64 db.n, .string db.s, .int .i64 db.t.sec, .int .i64 db.t.nsec, .int .i64 db.t.off, .slice A' len' cap'] 27)).alloc (.cells #[.int .i64 dc.kind, .int .u64 dc.n, .string dc.s, .int .i64 dc.t.sec, .int .i64 dc.t.nsec, .int .i64 dc.t.off, .slice A'' len'' cap''] 27)) (w.heap.size + 1 + 1) dc A'' len'' cap'' :=
    ⟨((box_new w _ da A len cap _ rfl).keep (keeps_alloc _ _)).keep (keeps_alloc _ _), (box_new _ _ db A' len' cap' _ (by simp)).keep (keeps_alloc _ _), box_new _ _ dc A'' len'' cap'' _ (by simp)⟩
  clear cFa cFb 
  go_enter Tryd.func4, Tryd.ntmps4
  go_wp2_with fail
  generalize (((w.alloc (.cells #[.int .i64 da.kind, .int .u64 da.n, .string da.s, .int .i64 da.t.sec, .int .i64 da.t.nsec, .int .i64 da.t.off, .slice A len cap] 27)).alloc (.cells #[.int .i64 db.kind, .int .u64 db.n, .string db.s, .int .i64 db.t.sec, .int .i64 db.t.nsec, .int .i64 db.t.off, .slice A' len' cap'] 27)).alloc (.cells #[.int .i64 dc.kind, .int .u64 dc.n, .string dc.s, .int .i64 dc.t.sec, .int .i64 dc.t.nsec, .int .i64 dc.t.off, .slice A'' len'' cap''] 27)) = W at HX hW ⊢
  have HXA := Lib.hid HX.1
  have HXB := Lib.hid HX.2.1
  have HXC := Lib.hid HX.2.2
  clear HX
  go_wp2_with (first
    | (go_at_call 7; (with_reducible refine (CFa.out _).mono ?_); rintro e w2 ⟨rfl, hb2⟩; have hB2 := keeps_below hW hb2; have hK2 := Lib.hid (keeps_of_below hb2); obtain ⟨p0, p1, p2, p3, p4, p5, p6⟩ := HXB.out.keep hK2.out)
    | (go_at_call 7; (with_reducible refine (CFb.out _).mono ?_); rintro e w3 ⟨rfl, hb3⟩; have hB3 := keeps_below hB2 hb3; have hK3 := Lib.hid (hK2.out.trans (keeps_of_below hb3)); clear p0 p1 p2 p3 p4 p5 p6; obtain ⟨q0, q1, q2, q3, q4, q5, q6⟩ := HXC.out.keep hK3.out))
  go_ret
  exact ⟨rfl, hB3⟩

set_option maxRecDepth 100000 in
set_option maxHeartbeats 4000000 in
theorem lawEqAll_no3 (cFa : ∀ wx, Calls Tryd.prog 7 #[vVal da A len cap] wx (BoolEnd true wx)) (cFb : ∀ wx, Calls Tryd.prog 7 #[vVal db A' len' cap'] wx (BoolEnd true wx)) (cFc : ∀ wx, Calls Tryd.prog 7 #[vVal dc A'' len'' cap''] wx (BoolEnd false wx)) :
    Calls Tryd.prog 4 #[vVal da A len cap, vVal db A' len' cap', vVal dc A'' len'' cap''] w (YesEnd w) := by
  unfold vVal at cFa cFb cFc ⊢
  unfold YesEnd
  have CFa := Lib.hid cFa
  have CFb := Lib.hid cFb
  have CFc := Lib.hid cFc
  have hW : Below w.heap.size w (((w.alloc (.cells #[.int .i64 da.kind, .int .u64 da.n, .string da.s, .int .i64 da.t.sec, .int .i64 da.t.nsec, .int .i64 da.t.off, .slice A len cap] 27)).alloc (.cells #[.int .i64 db.kind, .int .u64 db.n, .string db.s, .int .i64 db.t.sec, .int .i64 db.t.nsec, .int .i64 db.t.off, .slice A' len' cap'] 27)).alloc (.cells #[.int .i64 dc.kind, .int .u64 dc.n, .string dc.s, .int .i64 dc.t.sec, .int .i64 dc.t.nsec, .int .i64 dc.t.off, .slice A'' len'' cap''] 27)) := (by repeat' (first | with_reducible assumption | with_reducible exact Below.refl _ _ | with_reducible refine Below.setCell ?_ ?_ _ | with_reducible refine Below.alloc ?_ ?_ _ | with_reducible refine Below.drew ?_ | with_reducible refine below_drewN ?_ _ | omega | (simp; done) | (simp; omega)))
  have HX : Box (((w.alloc (.cells #[.int .i64 da.kind, .int .u64 da.n, .string da.s, .int .i64 da.t.sec, .int .i64 da.t.nsec, .int .i64 da.t.off, .slice A len cap] 27)).alloc (.cells #[.int .i64 db.kind, .int .u64 db.n, .string db.s, .int .i64 db.t.sec, .int .i64 db.t.nsec, .int .i64 db.t.off, .slice A' len' cap'] 27)).alloc (.cells #[.int .i64 dc.kind, .int .u64 dc.n, .string dc.s, .int .i64 dc.t.sec, .int .i64 dc.t.nsec, .int .i64 dc.t.off, .slice A'' len'' cap''] 27)) w.heap.size da A len cap ∧ Box (((w.alloc (.cells #[.int .i64 da.kind, .int .u64 da.n, .string da.s, .int .i64 da.t.sec, .int .i64 da.t.nsec, .int .i64 da.t.off, .slice A len cap] 27)).alloc (.cells #[.int .i64 db.kind, .int .u64 db.n, .string db.s, .int .i64 db.t.sec, .int .i64 db.t.nsec, .int .i64 db.t.off, .slice A' len' cap'] 27)).alloc (.cells #[.int .i64 dc.kind, .int .u64 dc.n, .string dc.s, .int .i64 dc.t.sec, .int .i64 dc.t.nsec, .int .i64 dc.t.off, .slice A'' len'' cap''] 27)) (w.heap.size + 1) db A' len' cap' ∧ Box (((w.alloc (.cells #[.int .i64 da.kind, .int .u64 da.n, .string da.s, .int .i64 da.t.sec, .int .i64 da.t.nsec, .int .i64 da.t.off, .slice A len cap] 27)).alloc (.cells #[.int .i64 db.kind, .int .u64 db.n, .string db.s, .int .i64 db.t.sec, .int .i64 db.t.nsec, .int .i64 db.t.off, .slice A' len' cap'] 27)).alloc (.cells #[.int .i64 dc.kind, .int .u64 dc.n, .string dc.s, .int .i64 dc.t.sec, .int .i64 dc.t.nsec, .int .i64 dc.t.off, .slice A'' len'' cap''] 27)) (w.heap.size + 1 + 1) dc A'' len'' cap'' :=
    ⟨((box_new w _ da A len cap _ rfl).keep (keeps_alloc _ _)).keep (keeps_alloc _ _), (box_new _ _ db A' len' cap' _ (by simp)).keep (keeps_alloc _ _), box_new _ _ dc A'' len'' cap'' _ (by simp)⟩
  clear cFa cFb cFc 
  go_enter Tryd.func4, Tryd.ntmps4
  go_wp2_with fail
  generalize (((w.alloc (.cells #[.int .i64 da.kind, .int .u64 da.n, .string da.s, .int .i64 da.t.sec, .int .i64 da.t.nsec, .int .i64 da.t.off, .slice A len cap] 27)).alloc (.cells #[.int .i64 db.kind, .int .u64 db.n, .string db.s, .int .i64 db.t.sec, .int .i64 db.t.nsec, .int .i64 db.t.off, .slice A' len' cap'] 27)).alloc (.cells #[.int .i64 dc.kind, .int .u64 dc.n, .string dc.s, .int .i64 dc.t.sec, .int .i64 dc.t.nsec, .int .i64 dc.t.off, .slice A'' len'' cap''] 27)) = W at HX hW ⊢
  have HXA := Lib.hid HX.1
  have HXB := Lib.hid HX.2.1
  have HXC := Lib.hid HX.2.2
  clear HX
  go_wp2_with (first
    | (go_at_call 7; (with_reducible refine (CFa.out _).mono ?_); rintro e w2 ⟨rfl, hb2⟩; have hB2 := keeps_below hW hb2; have hK2 := Lib.hid (keeps_of_below hb2); obtain ⟨p0, p1, p2, p3, p4, p5, p6⟩ := HXB.out.keep hK2.out)
    | (go_at_call 7; (with_reducible refine (CFb.out _).mono ?_); rintro e w3 ⟨rfl, hb3⟩; have hB3 := keeps_below hB2 hb3; have hK3 := Lib.hid (hK2.out.trans (keeps_of_below hb3)); clear p0 p1 p2 p3 p4 p5 p6; obtain ⟨q0, q1, q2, q3, q4, q5, q6⟩ := HXC.out.keep hK3.out)
    | (go_at_call 7; (with_reducible refine (CFc.out _).mono ?_); rintro e w4 ⟨rfl, hb4⟩; have hB4 := keeps_below hB3 hb4; have hK4 := Lib.hid (hK3.out.trans (keeps_of_below hb4)); clear q0 q1 q2 q3 q4 q5 q6; obtain ⟨p0, p1, p2, p3, p4, p5, p6⟩ := HXA.out.keep hK4.out; obtain ⟨q0, q1, q2, q3, q4, q5, q6⟩ := HXB.out.keep hK4.out; obtain ⟨r0, r1, r2, r3, r4, r5, r6⟩ := HXC.out.keep hK4.out))
  go_ret
  exact ⟨rfl, hB4⟩

set_option maxRecDepth 100000 in
set_option maxHeartbeats 4000000 in
theorem lawEqAll_no4 (cFa : ∀ wx, Calls Tryd.prog 7 #[vVal da A len cap] wx (BoolEnd true wx)) (cFb : ∀ wx, Calls Tryd.prog 7 #[vVal db A' len' cap'] wx (BoolEnd true wx)) (cFc : ∀ wx, Calls Tryd.prog 7 #[vVal dc A'' len'' cap''] wx (BoolEnd true wx))
    (ha : RS w da.l A len) (hb : RS w db.l A' len') (hc : RS w dc.l A'' len'') (cN : ∀ wx b, RVs wx [da, db, dc] b 0 → Calls Tryd.prog 8 #[.slice (some ⟨b, 0, none⟩) 3 3] wx (BoolEnd false wx)) :
    Calls Tryd.prog 4 #[vVal da A len cap, vVal db A' len' cap', vVal dc A'' len'' cap''] w (YesEnd w) := by
  unfold vVal at cFa cFb cFc ⊢
  unfold YesEnd
  have CFa := Lib.hid cFa
  have CFb := Lib.hid cFb
  have CFc := Lib.hid cFc
  have hW : Below w.heap.size w (((w.alloc (.cells #[.int .i64 da.kind, .int .u64 da.n, .string da.s, .int .i64 da.t.sec, .int .i64 da.t.nsec, .int .i64 da.t.off, .slice A len cap] 27)).alloc (.cells #[.int .i64 db.kind, .int .u64 db.n, .string db.s, .int .i64 db.t.sec, .int .i64 db.t.nsec, .int .i64 db.t.off, .slice A' len' cap'] 27)).alloc (.cells #[.int .i64 dc.kind, .int .u64 dc.n, .string dc.s, .int .i64 dc.t.sec, .int .i64 dc.t.nsec, .int .i64 dc.t.off, .slice A'' len'' cap''] 27)) := (by repeat' (first | with_reducible assumption | with_reducible exact Below.refl _ _ | with_reducible refine Below.setCell ?_ ?_ _ | with_reducible refine Below.alloc ?_ ?_ _ | with_reducible refine Below.drew ?_ | with_reducible refine below_drewN ?_ _ | omega | (simp; done) | (simp; omega)))
  have HX : Box (((w.alloc (.cells #[.int .i64 da.kind, .int .u64 da.n, .string da.s, .int .i64 da.t.sec, .int .i64 da.t.nsec, .int .i64 da.t.off, .slice A len cap] 27)).alloc (.cells #[.int .i64 db.kind, .int .u64 db.n, .string db.s, .int .i64 db.t.sec, .int .i64 db.t.nsec, .int .i64 db.t.off, .slice A' len' cap'] 27)).alloc (.cells #[.int .i64 dc.kind, .int .u64 dc.n, .string dc.s, .int .i64 dc.t.sec, .int .i64 dc.t.nsec, .int .i64 dc.t.off, .slice A'' len'' cap''] 27)) w.heap.size da A len cap ∧ Box (((w.alloc (.cells #[.int .i64 da.kind, .int .u64 da.n, .string da.s, .int .i64 da.t.sec, .int .i64 da.t.nsec, .int .i64 da.t.off, .slice A len cap] 27)).alloc (.cells #[.int .i64 db.kind, .int .u64 db.n, .string db.s, .int .i64 db.t.sec, .int .i64 db.t.nsec, .int .i64 db.t.off, .slice A' len' cap'] 27)).alloc (.cells #[.int .i64 dc.kind, .int .u64 dc.n, .string dc.s, .int .i64 dc.t.sec, .int .i64 dc.t.nsec, .int .i64 dc.t.off, .slice A'' len'' cap''] 27)) (w.heap.size + 1) db A' len' cap' ∧ Box (((w.alloc (.cells #[.int .i64 da.kind, .int .u64 da.n, .string da.s, .int .i64 da.t.sec, .int .i64 da.t.nsec, .int .i64 da.t.off, .slice A len cap] 27)).alloc (.cells #[.int .i64 db.kind, .int .u64 db.n, .string db.s, .int .i64 db.t.sec, .int .i64 db.t.nsec, .int .i64 db.t.off, .slice A' len' cap'] 27)).alloc (.cells #[.int .i64 dc.kind, .int .u64 dc.n, .string dc.s, .int .i64 dc.t.sec, .int .i64 dc.t.nsec, .int .i64 dc.t.off, .slice A'' len'' cap''] 27)) (w.heap.size + 1 + 1) dc A'' len'' cap'' :=
    ⟨((box_new w _ da A len cap _ rfl).keep (keeps_alloc _ _)).keep (keeps_alloc _ _), (box_new _ _ db A' len' cap' _ (by simp)).keep (keeps_alloc _ _), box_new _ _ dc A'' len'' cap'' _ (by simp)⟩
  have CN := Lib.hid cN
  have HRA := Lib.hid ha
  have HRB := Lib.hid hb
  have HRC := Lib.hid hc
  clear cFa cFb cFc cN ha hb hc
  go_enter Tryd.func4, Tryd.ntmps4
  go_wp2_with fail
  generalize (((w.alloc (.cells #[.int .i64 da.kind, .int .u64 da.n, .string da.s, .int .i64 da.t.sec, .int .i64 da.t.nsec, .int .i64 da.t.off, .slice A len cap] 27)).alloc (.cells #[.int .i64 db.kind, .int .u64 db.n, .string db.s, .int .i64 db.t.sec, .int .i64 db.t.nsec, .int .i64 db.t.off, .slice A' len' cap'] 27)).alloc (.cells #[.int .i64 dc.kind, .int .u64 dc.n, .string dc.s, .int .i64 dc.t.sec, .int .i64 dc.t.nsec, .int .i64 dc.t.off, .slice A'' len'' cap''] 27)) = W at HX hW ⊢
  have HXA := Lib.hid HX.1
  have HXB := Lib.hid HX.2.1
  have HXC := Lib.hid HX.2.2
  clear HX
  go_wp2_with (first
    | (go_at_call 7; (with_reducible refine (CFa.out _).mono ?_); rintro e w2 ⟨rfl, hb2⟩; have hB2 := keeps_below hW hb2; have hK2 := Lib.hid (keeps_of_below hb2); obtain ⟨p0, p1, p2, p3, p4, p5, p6⟩ := HXB.out.keep hK2.out)
    | (go_at_call 7; (with_reducible refine (CFb.out _).mono ?_); rintro e w3 ⟨rfl, hb3⟩; have hB3 := keeps_below hB2 hb3; have hK3 := Lib.hid (hK2.out.trans (keeps_of_below hb3)); clear p0 p1 p2 p3 p4 p5 p6; obtain ⟨q0, q1, q2, q3, q4, q5, q6⟩ := HXC.out.keep hK3.out)
    | (go_at_call 7; (with_reducible refine (CFc.out _).mono ?_); rintro e w4 ⟨rfl, hb4⟩; have hB4 := keeps_below hB3 hb4; have hK4 := Lib.hid (hK3.out.trans (keeps_of_below hb4)); clear q0 q1 q2 q3 q4 q5 q6; obtain ⟨p0, p1, p2, p3, p4, p5, p6⟩ := HXA.out.keep hK4.out; obtain ⟨q0, q1, q2, q3, q4, q5, q6⟩ := HXB.out.keep hK4.out; obtain ⟨r0, r1, r2, r3, r4, r5, r6⟩ := HXC.out.keep hK4.out)
    | (go_at_call 8; (refine (CN.out _ _ (rvs3 (keeps_of_below hB4) HRA.out HRB.out HRC.out)).mono ?_); rintro e w5 ⟨rfl, hb5⟩; have hB5 := keeps_below (keeps_below hB4 ((Below.refl _ _).alloc (Nat.le_refl _) _)) hb5; have hK5 := Lib.hid ((hK4.out.trans (keeps_alloc _ _)).trans (keeps_of_below hb5)); clear hb5 p0 p1 p2 p3 p4 p5 p6 q0 q1 q2 q3 q4 q5 q6 r0 r1 r2 r3 r4 r5 r6))
  go_ret
  exact ⟨rfl, hB5⟩

set_option maxRecDepth 100000 in
set_option maxHeartbeats 4000000 in
theorem lawEqAll_core (cFa : ∀ wx, Calls Tryd.prog 7 #[vVal da A len cap] wx (BoolEnd true wx)) (cFb : ∀ wx, Calls Tryd.prog 7 #[vVal db A' len' cap'] wx (BoolEnd true wx)) (cFc : ∀ wx, Calls Tryd.prog 7 #[vVal dc A'' len'' cap''] wx (BoolEnd true wx))
    (ha : RS w da.l A len) (hb : RS w db.l A' len') (hc : RS w dc.l A'' len'') (cN : ∀ wx b, RVs wx [da, db, dc] b 0 → Calls Tryd.prog 8 #[.slice (some ⟨b, 0, none⟩) 3 3] wx (BoolEnd true wx))
    (cU : ∀ wx, Calls Tryd.prog 11 #[vVal unitV none 0 0, vVal unitV none 0 0] wx (PairEnd (true, false) wx))
    (r1 r2 s1 s2 t1 t2 u1 u2 : Bool) (cAB : ∀ wx, Keeps w wx → Calls Tryd.prog 11 #[vVal da A len cap, vVal db A' len' cap'] wx (PairEnd (r1, r2) wx)) (cBA : ∀ wx, Keeps w wx → Calls Tryd.prog 11 #[vVal db A' len' cap', vVal da A len cap] wx (PairEnd (r1, r2) wx))
    (cBC : ∀ wx, Keeps w wx → Calls Tryd.prog 11 #[vVal db A' len' cap', vVal dc A'' len'' cap''] wx (PairEnd (s1, s2) wx)) (cAC : ∀ wx, Keeps w wx → Calls Tryd.prog 11 #[vVal da A len cap, vVal dc A'' len'' cap''] wx (PairEnd (t1, t2) wx))
    (cIN : ∀ wx P P' c c', RS wx (wrapV da).l P 2 → RS wx (wrapV db).l P' 2 → Calls Tryd.prog 11 #[vVal (wrapV da) P 2 c, vVal (wrapV db) P' 2 c'] wx (PairEnd (u1, u2) wx))
    (ta tb : GVal) (cTa : ∀ wx, Keeps w wx → Calls Tryd.prog 10 #[vVal da A len cap] wx (TidyPost ta wx)) (cTb : ∀ wx, Keeps w wx → Calls Tryd.prog 10 #[vVal db A' len' cap'] wx (TidyPost tb wx))
    (hin : ta.kind ≠ 8 → tb.kind ≠ 8 → u2 = r2 ∧ (r2 = false → u1 = r1)) (htr : r1 = true → r2 = false → s1 = true → s2 = false → t1 = true ∧ t2 = false) :
    Calls Tryd.prog 4 #[vVal da A len cap, vVal db A' len' cap', vVal dc A'' len'' cap''] w (YesEnd w) := by
  unfold vVal at cFa cFb cFc ⊢
  unfold YesEnd
  have CFa := Lib.hid cFa
  have CFb := Lib.hid cFb
  have CFc := Lib.hid cFc
  have hW : Below w.heap.size w (((w.alloc (.cells #[.int .i64 da.kind, .int .u64 da.n, .string da.s, .int .i64 da.t.sec, .int .i64 da.t.nsec, .int .i64 da.t.off, .slice A len cap] 27)).alloc (.cells #[.int .i64 db.kind, .int .u64 db.n, .string db.s, .int .i64 db.t.sec, .int .i64 db.t.nsec, .int .i64 db.t.off, .slice A' len' cap'] 27)).alloc (.cells #[.int .i64 dc.kind, .int .u64 dc.n, .string dc.s, .int .i64 dc.t.sec, .int .i64 dc.t.nsec, .int .i64 dc.t.off, .slice A'' len'' cap''] 27)) := (by repeat' (first | with_reducible assumption | with_reducible exact Below.refl _ _ | with_reducible refine Below.setCell ?_ ?_ _ | with_reducible refine Below.alloc ?_ ?_ _ | with_reducible refine Below.drew ?_ | with_reducible refine below_drewN ?_ _ | omega | (simp; done) | (simp; omega)))
  have HX : Box (((w.alloc (.cells #[.int .i64 da.kind, .int .u64 da.n, .string da.s, .int .i64 da.t.sec, .int .i64 da.t.nsec, .int .i64 da.t.off, .slice A len cap] 27)).alloc (.cells #[.int .i64 db.kind, .int .u64 db.n, .string db.s, .int .i64 db.t.sec, .int .i64 db.t.nsec, .int .i64 db.t.off, .slice A' len' cap'] 27)).alloc (.cells #[.int .i64 dc.kind, .int .u64 dc.n, .string dc.s, .int .i64 dc.t.sec, .int .i64 dc.t.nsec, .int .i64 dc.t.off, .slice A'' len'' cap''] 27)) w.heap.size da A len cap ∧ Box (((w.alloc (.cells #[.int .i64 da.kind, .int .u64 da.n, .string da.s, .int .i64 da.t.sec, .int .i64 da.t.nsec, .int .i64 da.t.off, .slice A len cap] 27)).alloc (.cells #[.int .i64 db.kind, .int .u64 db.n, .string db.s, .int .i64 db.t.sec, .int .i64 db.t.nsec, .int .i64 db.t.off, .slice A' len' cap'] 27)).alloc (.cells #[.int .i64 dc.kind, .int .u64 dc.n, .string dc.s, .int .i64 dc.t.sec, .int .i64 dc.t.nsec, .int .i64 dc.t.off, .slice A'' len'' cap''] 27)) (w.heap.size + 1) db A' len' cap' ∧ Box (((w.alloc (.cells #[.int .i64 da.kind, .int .u64 da.n, .string da.s, .int .i64 da.t.sec, .int .i64 da.t.nsec, .int .i64 da.t.off, .slice A len cap] 27)).alloc (.cells #[.int .i64 db.kind, .int .u64 db.n, .string db.s, .int .i64 db.t.sec, .int .i64 db.t.nsec, .int .i64 db.t.off, .slice A' len' cap'] 27)).alloc (.cells #[.int .i64 dc.kind, .int .u64 dc.n, .string dc.s, .int .i64 dc.t.sec, .int .i64 dc.t.nsec, .int .i64 dc.t.off, .slice A'' len'' cap''] 27)) (w.heap.size + 1 + 1) dc A'' len'' cap'' :=
    ⟨((box_new w _ da A len cap _ rfl).keep (keeps_alloc _ _)).keep (keeps_alloc _ _), (box_new _ _ db A' len' cap' _ (by simp)).keep (keeps_alloc _ _), box_new _ _ dc A'' len'' cap'' _ (by simp)⟩
  have CN := Lib.hid cN
  have HRA := Lib.hid ha
  have HRB := Lib.hid hb
  have HRC := Lib.hid hc
  have CU := Lib.hid cU
  have CAB := Lib.hid cAB
  have CBA := Lib.hid cBA
  have CBC := Lib.hid cBC
  have CAC := Lib.hid cAC
  have CIN := Lib.hid cIN
  have CTa := Lib.hid cTa
  have CTb := Lib.hid cTb
  have HIN := Lib.hid hin
  have HTR := Lib.hid htr
  unfold vVal at CU CAB CBA CBC CAC CIN CTa CTb
  simp only [show unitV.kind = 4 from rfl, show unitV.n = 1 from rfl, show unitV.s = ⟨#[]⟩ from rfl, show unitV.t.sec = 0 from rfl, show unitV.t.nsec = 0 from rfl, show unitV.t.off = 0 from rfl] at CU
  simp only [show ∀ d, (wrapV d).kind = 8 from fun _ => rfl, show ∀ d, (wrapV d).n = 0 from fun _ => rfl, show ∀ d, (wrapV d).s = ⟨#[]⟩ from fun _ => rfl, show ∀ d, (wrapV d).t.sec = 0 from fun _ => rfl, show ∀ d, (wrapV d).t.nsec = 0 from fun _ => rfl, show ∀ d, (wrapV d).t.off = 0 from fun _ => rfl] at CIN
  clear cU cAB cBA cBC cAC cIN cTa cTb hin htr
  clear cFa cFb cFc cN ha hb hc
  go_enter Tryd.func4, Tryd.ntmps4
  go_wp2_with fail
  generalize (((w.alloc (.cells #[.int .i64 da.kind, .int .u64 da.n, .string da.s, .int .i64 da.t.sec, .int .i64 da.t.nsec, .int .i64 da.t.off, .slice A len cap] 27)).alloc (.cells #[.int .i64 db.kind, .int .u64 db.n, .string db.s, .int .i64 db.t.sec, .int .i64 db.t.nsec, .int .i64 db.t.off, .slice A' len' cap'] 27)).alloc (.cells #[.int .i64 dc.kind, .int .u64 dc.n, .string dc.s, .int .i64 dc.t.sec, .int .i64 dc.t.nsec, .int .i64 dc.t.off, .slice A'' len'' cap''] 27)) = W at HX hW ⊢
  have HXA := Lib.hid HX.1
  have HXB := Lib.hid HX.2.1
  have HXC := Lib.hid HX.2.2
  clear HX
  go_wp2_with (first
    | (go_at_call 7; (with_reducible refine (CFa.out _).mono ?_); rintro e w2 ⟨rfl, hb2⟩; have hB2 := keeps_below hW hb2; have hK2 := Lib.hid (keeps_of_below hb2); obtain ⟨p0, p1, p2, p3, p4, p5, p6⟩ := HXB.out.keep hK2.out)
    | (go_at_call 7; (with_reducible refine (CFb.out _).mono ?_); rintro e w3 ⟨rfl, hb3⟩; have hB3 := keeps_below hB2 hb3; have hK3 := Lib.hid (hK2.out.trans (keeps_of_below hb3)); clear p0 p1 p2 p3 p4 p5 p6; obtain ⟨q0, q1, q2, q3, q4, q5, q6⟩ := HXC.out.keep hK3.out)
    | (go_at_call 7; (with_reducible refine (CFc.out _).mono ?_); rintro e w4 ⟨rfl, hb4⟩; have hB4 := keeps_below hB3 hb4; have hK4 := Lib.hid (hK3.out.trans (keeps_of_below hb4)); clear q0 q1 q2 q3 q4 q5 q6; obtain ⟨p0, p1, p2, p3, p4, p5, p6⟩ := HXA.out.keep hK4.out; obtain ⟨q0, q1, q2, q3, q4, q5, q6⟩ := HXB.out.keep hK4.out; obtain ⟨r0, r1, r2, r3, r4, r5, r6⟩ := HXC.out.keep hK4.out)
    | (go_at_call 8; (refine (CN.out _ _ (rvs3 (keeps_of_below hB4) HRA.out HRB.out HRC.out)).mono ?_); rintro e w5 ⟨rfl, hb5⟩; have hB5 := keeps_below (keeps_below hB4 ((Below.refl _ _).alloc (Nat.le_refl _) _)) hb5; have hK5 := Lib.hid ((hK4.out.trans (keeps_alloc _ _)).trans (keeps_of_below hb5)); clear hb5 p0 p1 p2 p3 p4 p5 p6 q0 q1 q2 q3 q4 q5 q6 r0 r1 r2 r3 r4 r5 r6))
  have HS := Lib.hid (fun wx (hx : Keeps (w5.alloc (.cells #[.int .i64 4, .int .u64 1, .string ⟨#[]⟩, .int .i64 0, .int .i64 0, .int .i64 0, .slice none 0 0] 27)) wx) => (⟨HXA.out.keep (hK5.out.trans ((keeps_alloc _ _).trans hx)), HXB.out.keep (hK5.out.trans ((keeps_alloc _ _).trans hx)), HXC.out.keep (hK5.out.trans ((keeps_alloc _ _).trans hx)), (box_new w5 27 unitV none 0 0 _ rfl).keep hx⟩ : Box wx w.heap.size da A len cap ∧ Box wx (w.heap.size + 1) db A' len' cap' ∧ Box wx (w.heap.size + 1 + 1) dc A'' len'' cap'' ∧ Box wx w5.heap.size unitV none 0 0))
  go_upto_region 13 with (first
    | (go_at_call 11; (with_reducible refine (CU.out _).mono ?_); rintro e w6 ⟨rfl, hb6⟩; have hB6 := keeps_below (keeps_below hB5 ((Below.refl _ _).alloc (Nat.le_refl _) _)) hb6; have hK6 := Lib.hid (keeps_of_below hb6); obtain ⟨p0, p1, p2, p3, p4, p5, p6⟩ := (HS.out _ hK6.out).1; obtain ⟨q0, q1, q2, q3, q4, q5, q6⟩ := (HS.out _ hK6.out).2.1; clear hb6)
    | (go_at_call 11; (with_reducible refine (CAB.out _ (keeps_of_below hB6)).mono ?_); rintro e w7 ⟨rfl, hb7⟩; have hB7 := keeps_below hB6 hb7; have hK7 := Lib.hid (hK6.out.trans (keeps_of_below hb7)); clear hb7 p0 p1 p2 p3 p4 p5 p6 q0 q1 q2 q3 q4 q5 q6; obtain ⟨p0, p1, p2, p3, p4, p5, p6⟩ := (HS.out _ hK7.out).1; obtain ⟨q0, q1, q2, q3, q4, q5, q6⟩ := (HS.out _ hK7.out).2.1)
    | (go_at_call 11; (with_reducible refine (CBA.out _ (keeps_of_below hB7)).mono ?_); rintro e w8 ⟨rfl, hb8⟩; have hB8 := keeps_below hB7 hb8; have hK8 := Lib.hid (hK7.out.trans (keeps_of_below hb8)); clear hb8 p0 p1 p2 p3 p4 p5 p6 q0 q1 q2 q3 q4 q5 q6; obtain ⟨p0, p1, p2, p3, p4, p5, p6⟩ := (HS.out _ hK8.out).2.2.1; obtain ⟨q0, q1, q2, q3, q4, q5, q6⟩ := (HS.out _ hK8.out).2.1)
    | (go_at_call 11; (with_reducible refine (CBC.out _ (keeps_of_below hB8)).mono ?_); rintro e w9 ⟨rfl, hb9⟩; have hB9 := keeps_below hB8 hb9; have hK9 := Lib.hid (hK8.out.trans (keeps_of_below hb9)); clear hb9 p0 p1 p2 p3 p4 p5 p6 q0 q1 q2 q3 q4 q5 q6; obtain ⟨p0, p1, p2, p3, p4, p5, p6⟩ := (HS.out _ hK9.out).1; obtain ⟨q0, q1, q2, q3, q4, q5, q6⟩ := (HS.out _ hK9.out).2.2.1)
    | (go_at_call 11; (with_reducible refine (CAC.out _ (keeps_of_below hB9)).mono ?_); rintro e w10 ⟨rfl, hb10⟩; have hB10 := keeps_below hB9 hb10; have hK10 := Lib.hid (hK9.out.trans (keeps_of_below hb10)); clear hb10 p0 p1 p2 p3 p4 p5 p6 q0 q1 q2 q3 q4 q5 q6; obtain ⟨p0, p1, p2, p3, p4, p5, p6⟩ := (HS.out _ hK10.out).1; obtain ⟨q0, q1, q2, q3, q4, q5, q6⟩ := (HS.out _ hK10.out).2.1; obtain ⟨r0, r1', r2', r3, r4, r5, r6⟩ := (HS.out _ hK10.out).2.2.2))
  obtain ⟨ka, na, sa, tma, la⟩ := ta
  obtain ⟨kb, nb, sb, tmb, lb⟩ := tb
  simp only [vVal, kind_mk, n_mk, s_mk, t_mk, l_mk] at HIN
  have z0 := World.block_lt_of_cell? _ _ p0
  have z1 := World.block_lt_of_cell? _ _ q0
  have z2 := World.block_lt_of_cell? _ _ r0
  simp only at z0 z1 z2
  have y0 : w.heap.size < w10.heap.size + 1 := by omega
  have y1 : w.heap.size + 1 < w10.heap.size + 1 := by omega
  have y2 : w5.heap.size < w10.heap.size + 1 := by omega
  have x0 : w.heap.size < w10.heap.size + 1 + 1 := by omega
  have x1 : w.heap.size + 1 < w10.heap.size + 1 + 1 := by omega
  have x2 : w5.heap.size < w10.heap.size + 1 + 1 := by omega
  have v0 : w.heap.size < w10.heap.size + 1 + 1 + 1 := by omega
  have v1 : w.heap.size + 1 < w10.heap.size + 1 + 1 + 1 := by omega
  have v2 : w5.heap.size < w10.heap.size + 1 + 1 + 1 := by omega
  have hkinds : ka = 8 ∨ (¬ ka = 8 ∧ kb = 8) ∨ (¬ ka = 8 ∧ ¬ kb = 8) := by omega
  have hrs : (r2 = false ∧ r1 = false) ∨ (r2 = false ∧ r1 = true) ∨ r2 = true := by cases r2 <;> cases r1 <;> simp
  rcases hkinds with rfl | ⟨hka, rfl⟩ | ⟨hka, hkb⟩
  · rcases hrs with ⟨rfl, rfl⟩ | ⟨rfl, rfl⟩ | rfl
    · go_upto_region 20 with (first
        | (go_at_call 11; (refine (CIN.out _ _ _ _ _ ((((rs_wrap _ rfl (HRA.out.keep (keeps_of_below hB10))).keep (keeps_alloc _ _)).keep (keeps_alloc _ _)).keep (keeps_alloc _ _)) ((rs_wrap _ (by simp) (((HRB.out.keep (keeps_of_below hB10)).keep (keeps_alloc _ _)).keep (keeps_alloc _ _))).keep (keeps_alloc _ _))).mono ?_); rintro e w11 ⟨rfl, hb11⟩; have hB11 := keeps_below (keeps_below (keeps_below (keeps_below (keeps_below hB10 ((Below.refl _ _).alloc (Nat.le_refl _) _)) ((Below.refl _ _).alloc (Nat.le_refl _) _)) ((Below.refl _ _).alloc (Nat.le_refl _) _)) ((Below.refl _ _).alloc (Nat.le_refl _) _)) hb11; have hK11 := Lib.hid (hK10.out.trans (((((keeps_alloc _ _).trans (keeps_alloc _ _)).trans (keeps_alloc _ _)).trans (keeps_alloc _ _)).trans (keeps_of_below hb11))); clear hb11 p0 p1 p2 p3 p4 p5 p6 q0 q1 q2 q3 q4 q5 q6 r0 r1' r2' r3 r4 r5 r6; obtain ⟨p0, p1, p2, p3, p4, p5, p6⟩ := (HS.out _ hK11.out).1; obtain ⟨q0, q1, q2, q3, q4, q5, q6⟩ := (HS.out _ hK11.out).2.1)
        | (go_at_call 10; (with_reducible refine (CTa.out _ (keeps_of_below hB11)).mono ?_); rintro e w12 ⟨A1, l1, c1, rfl, _, hb12⟩; have hB12 := keeps_below hB11 hb12; have hK12 := Lib.hid (hK11.out.trans (keeps_of_below hb12)); clear hb12 p0 p1 p2 p3 p4 p5 p6 q0 q1 q2 q3 q4 q5 q6; obtain ⟨q0, q1, q2, q3, q4, q5, q6⟩ := (HS.out _ hK12.out).2.1; unfold vVal)
        | (go_at_call 10; (with_reducible refine (CTb.out _ (keeps_of_below hB12)).mono ?_); rintro e w13 ⟨A2, l2, c2, rfl, _, hb13⟩; have hB13 := keeps_below hB12 hb13; clear hb13; unfold vVal))
      go_wp2_with fail
      all_goals
        go_ret
        exact ⟨rfl, hB12⟩
    · go_upto_region 20 with (first
        | (go_at_call 11; (refine (CIN.out _ _ _ _ _ ((((rs_wrap _ rfl (HRA.out.keep (keeps_of_below hB10))).keep (keeps_alloc _ _)).keep (keeps_alloc _ _)).keep (keeps_alloc _ _)) ((rs_wrap _ (by simp) (((HRB.out.keep (keeps_of_below hB10)).keep (keeps_alloc _ _)).keep (keeps_alloc _ _))).keep (keeps_alloc _ _))).mono ?_); rintro e w11 ⟨rfl, hb11⟩; have hB11 := keeps_below (keeps_below (keeps_below (keeps_below (keeps_below hB10 ((Below.refl _ _).alloc (Nat.le_refl _) _)) ((Below.refl _ _).alloc (Nat.le_refl _) _)) ((Below.refl _ _).alloc (Nat.le_refl _) _)) ((Below.refl _ _).alloc (Nat.le_refl _) _)) hb11; have hK11 := Lib.hid (hK10.out.trans (((((keeps_alloc _ _).trans (keeps_alloc _ _)).trans (keeps_alloc _ _)).trans (keeps_alloc _ _)).trans (keeps_of_below hb11))); clear hb11 p0 p1 p2 p3 p4 p5 p6 q0 q1 q2 q3 q4 q5 q6 r0 r1' r2' r3 r4 r5 r6; obtain ⟨p0, p1, p2, p3, p4, p5, p6⟩ := (HS.out _ hK11.out).1; obtain ⟨q0, q1, q2, q3, q4, q5, q6⟩ := (HS.out _ hK11.out).2.1)
        | (go_at_call 10; (with_reducible refine (CTa.out _ (keeps_of_below hB11)).mono ?_); rintro e w12 ⟨A1, l1, c1, rfl, _, hb12⟩; have hB12 := keeps_below hB11 hb12; have hK12 := Lib.hid (hK11.out.trans (keeps_of_below hb12)); clear hb12 p0 p1 p2 p3 p4 p5 p6 q0 q1 q2 q3 q4 q5 q6; obtain ⟨q0, q1, q2, q3, q4, q5, q6⟩ := (HS.out _ hK12.out).2.1; unfold vVal)
        | (go_at_call 10; (with_reducible refine (CTb.out _ (keeps_of_below hB12)).mono ?_); rintro e w13 ⟨A2, l2, c2, rfl, _, hb13⟩; have hB13 := keeps_below hB12 hb13; clear hb13; unfold vVal))
      cases s2
      · cases s1
        · go_wp2_with fail
          go_ret
          exact ⟨rfl, hB12⟩
        · obtain ⟨rfl, rfl⟩ := HTR.out (by simp) (by simp) (by simp) (by simp)
          go_wp2_with fail
          go_ret
          exact ⟨rfl, hB12⟩
      · go_wp2_with fail
        go_ret
        exact ⟨rfl, hB12⟩
    · go_upto_region 20 with (first
        | (go_at_call 11; (refine (CIN.out _ _ _ _ _ ((((rs_wrap _ rfl (HRA.out.keep (keeps_of_below hB10))).keep (keeps_alloc _ _)).keep (keeps_alloc _ _)).keep (keeps_alloc _ _)) ((rs_wrap _ (by simp) (((HRB.out.keep (keeps_of_below hB10)).keep (keeps_alloc _ _)).keep (keeps_alloc _ _))).keep (keeps_alloc _ _))).mono ?_); rintro e w11 ⟨rfl, hb11⟩; have hB11 := keeps_below (keeps_below (keeps_below (keeps_below (keeps_below hB10 ((Below.refl _ _).alloc (Nat.le_refl _) _)) ((Below.refl _ _).alloc (Nat.le_refl _) _)) ((Below.refl _ _).alloc (Nat.le_refl _) _)) ((Below.refl _ _).alloc (Nat.le_refl _) _)) hb11; have hK11 := Lib.hid (hK10.out.trans (((((keeps_alloc _ _).trans (keeps_alloc _ _)).trans (keeps_alloc _ _)).trans (keeps_alloc _ _)).trans (keeps_of_below hb11))); clear hb11 p0 p1 p2 p3 p4 p5 p6 q0 q1 q2 q3 q4 q5 q6 r0 r1' r2' r3 r4 r5 r6; obtain ⟨p0, p1, p2, p3, p4, p5, p6⟩ := (HS.out _ hK11.out).1; obtain ⟨q0, q1, q2, q3, q4, q5, q6⟩ := (HS.out _ hK11.out).2.1)
        | (go_at_call 10; (with_reducible refine (CTa.out _ (keeps_of_below hB11)).mono ?_); rintro e w12 ⟨A1, l1, c1, rfl, _, hb12⟩; have hB12 := keeps_below hB11 hb12; have hK12 := Lib.hid (hK11.out.trans (keeps_of_below hb12)); clear hb12 p0 p1 p2 p3 p4 p5 p6 q0 q1 q2 q3 q4 q5 q6; obtain ⟨q0, q1, q2, q3, q4, q5, q6⟩ := (HS.out _ hK12.out).2.1; unfold vVal)
        | (go_at_call 10; (with_reducible refine (CTb.out _ (keeps_of_below hB12)).mono ?_); rintro e w13 ⟨A2, l2, c2, rfl, _, hb13⟩; have hB13 := keeps_below hB12 hb13; clear hb13; unfold vVal))
      go_wp2_with fail
      all_goals
        go_ret
        exact ⟨rfl, hB12⟩
  · have hka' : (ka != 8) = true := by simp [hka]
    rcases hrs with ⟨rfl, rfl⟩ | ⟨rfl, rfl⟩ | rfl
    · go_upto_region 20 with (first
        | (go_at_call 11; (refine (CIN.out _ _ _ _ _ ((((rs_wrap _ rfl (HRA.out.keep (keeps_of_below hB10))).keep (keeps_alloc _ _)).keep (keeps_alloc _ _)).keep (keeps_alloc _ _)) ((rs_wrap _ (by simp) (((HRB.out.keep (keeps_of_below hB10)).keep (keeps_alloc _ _)).keep (keeps_alloc _ _))).keep (keeps_alloc _ _))).mono ?_); rintro e w11 ⟨rfl, hb11⟩; have hB11 := keeps_below (keeps_below (keeps_below (keeps_below (keeps_below hB10 ((Below.refl _ _).alloc (Nat.le_refl _) _)) ((Below.refl _ _).alloc (Nat.le_refl _) _)) ((Below.refl _ _).alloc (Nat.le_refl _) _)) ((Below.refl _ _).alloc (Nat.le_refl _) _)) hb11; have hK11 := Lib.hid (hK10.out.trans (((((keeps_alloc _ _).trans (keeps_alloc _ _)).trans (keeps_alloc _ _)).trans (keeps_alloc _ _)).trans (keeps_of_below hb11))); clear hb11 p0 p1 p2 p3 p4 p5 p6 q0 q1 q2 q3 q4 q5 q6 r0 r1' r2' r3 r4 r5 r6; obtain ⟨p0, p1, p2, p3, p4, p5, p6⟩ := (HS.out _ hK11.out).1; obtain ⟨q0, q1, q2, q3, q4, q5, q6⟩ := (HS.out _ hK11.out).2.1)
        | (go_at_call 10; (with_reducible refine (CTa.out _ (keeps_of_below hB11)).mono ?_); rintro e w12 ⟨A1, l1, c1, rfl, _, hb12⟩; have hB12 := keeps_below hB11 hb12; have hK12 := Lib.hid (hK11.out.trans (keeps_of_below hb12)); clear hb12 p0 p1 p2 p3 p4 p5 p6 q0 q1 q2 q3 q4 q5 q6; obtain ⟨q0, q1, q2, q3, q4, q5, q6⟩ := (HS.out _ hK12.out).2.1; unfold vVal)
        | (go_at_call 10; (with_reducible refine (CTb.out _ (keeps_of_below hB12)).mono ?_); rintro e w13 ⟨A2, l2, c2, rfl, _, hb13⟩; have hB13 := keeps_below hB12 hb13; clear hb13; unfold vVal))
      go_wp2_with fail
      all_goals
        go_ret
        exact ⟨rfl, hB13⟩
    · go_upto_region 20 with (first
        | (go_at_call 11; (refine (CIN.out _ _ _ _ _ ((((rs_wrap _ rfl (HRA.out.keep (keeps_of_below hB10))).keep (keeps_alloc _ _)).keep (keeps_alloc _ _)).keep (keeps_alloc _ _)) ((rs_wrap _ (by simp) (((HRB.out.keep (keeps_of_below hB10)).keep (keeps_alloc _ _)).keep (keeps_alloc _ _))).keep (keeps_alloc _ _))).mono ?_); rintro e w11 ⟨rfl, hb11⟩; have hB11 := keeps_below (keeps_below (keeps_below (keeps_below (keeps_below hB10 ((Below.refl _ _).alloc (Nat.le_refl _) _)) ((Below.refl _ _).alloc (Nat.le_refl _) _)) ((Below.refl _ _).alloc (Nat.le_refl _) _)) ((Below.refl _ _).alloc (Nat.le_refl _) _)) hb11; have hK11 := Lib.hid (hK10.out.trans (((((keeps_alloc _ _).trans (keeps_alloc _ _)).trans (keeps_alloc _ _)).trans (keeps_alloc _ _)).trans (keeps_of_below hb11))); clear hb11 p0 p1 p2 p3 p4 p5 p6 q0 q1 q2 q3 q4 q5 q6 r0 r1' r2' r3 r4 r5 r6; obtain ⟨p0, p1, p2, p3, p4, p5, p6⟩ := (HS.out _ hK11.out).1; obtain ⟨q0, q1, q2, q3, q4, q5, q6⟩ := (HS.out _ hK11.out).2.1)
        | (go_at_call 10; (with_reducible refine (CTa.out _ (keeps_of_below hB11)).mono ?_); rintro e w12 ⟨A1, l1, c1, rfl, _, hb12⟩; have hB12 := keeps_below hB11 hb12; have hK12 := Lib.hid (hK11.out.trans (keeps_of_below hb12)); clear hb12 p0 p1 p2 p3 p4 p5 p6 q0 q1 q2 q3 q4 q5 q6; obtain ⟨q0, q1, q2, q3, q4, q5, q6⟩ := (HS.out _ hK12.out).2.1; unfold vVal)
        | (go_at_call 10; (with_reducible refine (CTb.out _ (keeps_of_below hB12)).mono ?_); rintro e w13 ⟨A2, l2, c2, rfl, _, hb13⟩; have hB13 := keeps_below hB12 hb13; clear hb13; unfold vVal))
      cases s2
      · cases s1
        · go_wp2_with fail
          go_ret
          exact ⟨rfl, hB13⟩
        · obtain ⟨rfl, rfl⟩ := HTR.out (by simp) (by simp) (by simp) (by simp)
          go_wp2_with fail
          go_ret
          exact ⟨rfl, hB13⟩
      · go_wp2_with fail
        go_ret
        exact ⟨rfl, hB13⟩
    · go_upto_region 20 with (first
        | (go_at_call 11; (refine (CIN.out _ _ _ _ _ ((((rs_wrap _ rfl (HRA.out.keep (keeps_of_below hB10))).keep (keeps_alloc _ _)).keep (keeps_alloc _ _)).keep (keeps_alloc _ _)) ((rs_wrap _ (by simp) (((HRB.out.keep (keeps_of_below hB10)).keep (keeps_alloc _ _)).keep (keeps_alloc _ _))).keep (keeps_alloc _ _))).mono ?_); rintro e w11 ⟨rfl, hb11⟩; have hB11 := keeps_below (keeps_below (keeps_below (keeps_below (keeps_below hB10 ((Below.refl _ _).alloc (Nat.le_refl _) _)) ((Below.refl _ _).alloc (Nat.le_refl _) _)) ((Below.refl _ _).alloc (Nat.le_refl _) _)) ((Below.refl _ _).alloc (Nat.le_refl _) _)) hb11; have hK11 := Lib.hid (hK10.out.trans (((((keeps_alloc _ _).trans (keeps_alloc _ _)).trans (keeps_alloc _ _)).trans (keeps_alloc _ _)).trans (keeps_of_below hb11))); clear hb11 p0 p1 p2 p3 p4 p5 p6 q0 q1 q2 q3 q4 q5 q6 r0 r1' r2' r3 r4 r5 r6; obtain ⟨p0, p1, p2, p3, p4, p5, p6⟩ := (HS.out _ hK11.out).1; obtain ⟨q0, q1, q2, q3, q4, q5, q6⟩ := (HS.out _ hK11.out).2.1)
        | (go_at_call 10; (with_reducible refine (CTa.out _ (keeps_of_below hB11)).mono ?_); rintro e w12 ⟨A1, l1, c1, rfl, _, hb12⟩; have hB12 := keeps_below hB11 hb12; have hK12 := Lib.hid (hK11.out.trans (keeps_of_below hb12)); clear hb12 p0 p1 p2 p3 p4 p5 p6 q0 q1 q2 q3 q4 q5 q6; obtain ⟨q0, q1, q2, q3, q4, q5, q6⟩ := (HS.out _ hK12.out).2.1; unfold vVal)
        | (go_at_call 10; (with_reducible refine (CTb.out _ (keeps_of_below hB12)).mono ?_); rintro e w13 ⟨A2, l2, c2, rfl, _, hb13⟩; have hB13 := keeps_below hB12 hb13; clear hb13; unfold vVal))
      go_wp2_with fail
      all_goals
        go_ret
        exact ⟨rfl, hB13⟩
  · have hka' : (ka != 8) = true := by simp [hka]
    have hkb' : (kb != 8) = true := by simp [hkb]
    rcases hrs with ⟨rfl, rfl⟩ | ⟨rfl, rfl⟩ | rfl
    · obtain ⟨e2, e1⟩ := HIN.out hka hkb
      subst e2
      obtain rfl := e1 rfl
      clear e1
      go_upto_region 20 with (first
        | (go_at_call 11; (refine (CIN.out _ _ _ _ _ ((((rs_wrap _ rfl (HRA.out.keep (keeps_of_below hB10))).keep (keeps_alloc _ _)).keep (keeps_alloc _ _)).keep (keeps_alloc _ _)) ((rs_wrap _ (by simp) (((HRB.out.keep (keeps_of_below hB10)).keep (keeps_alloc _ _)).keep (keeps_alloc _ _))).keep (keeps_alloc _ _))).mono ?_); rintro e w11 ⟨rfl, hb11⟩; have hB11 := keeps_below (keeps_below (keeps_below (keeps_below (keeps_below hB10 ((Below.refl _ _).alloc (Nat.le_refl _) _)) ((Below.refl _ _).alloc (Nat.le_refl _) _)) ((Below.refl _ _).alloc (Nat.le_refl _) _)) ((Below.refl _ _).alloc (Nat.le_refl _) _)) hb11; have hK11 := Lib.hid (hK10.out.trans (((((keeps_alloc _ _).trans (keeps_alloc _ _)).trans (keeps_alloc _ _)).trans (keeps_alloc _ _)).trans (keeps_of_below hb11))); clear hb11 p0 p1 p2 p3 p4 p5 p6 q0 q1 q2 q3 q4 q5 q6 r0 r1' r2' r3 r4 r5 r6; obtain ⟨p0, p1, p2, p3, p4, p5, p6⟩ := (HS.out _ hK11.out).1; obtain ⟨q0, q1, q2, q3, q4, q5, q6⟩ := (HS.out _ hK11.out).2.1)
        | (go_at_call 10; (with_reducible refine (CTa.out _ (keeps_of_below hB11)).mono ?_); rintro e w12 ⟨A1, l1, c1, rfl, _, hb12⟩; have hB12 := keeps_below hB11 hb12; have hK12 := Lib.hid (hK11.out.trans (keeps_of_below hb12)); clear hb12 p0 p1 p2 p3 p4 p5 p6 q0 q1 q2 q3 q4 q5 q6; obtain ⟨q0, q1, q2, q3, q4, q5, q6⟩ := (HS.out _ hK12.out).2.1; unfold vVal)
        | (go_at_call 10; (with_reducible refine (CTb.out _ (keeps_of_below hB12)).mono ?_); rintro e w13 ⟨A2, l2, c2, rfl, _, hb13⟩; have hB13 := keeps_below hB12 hb13; clear hb13; unfold vVal))
      go_wp2_with fail
      all_goals
        go_ret
        exact ⟨rfl, hB13⟩
    · obtain ⟨e2, e1⟩ := HIN.out hka hkb
      subst e2
      obtain rfl := e1 rfl
      clear e1
      go_upto_region 20 with (first
        | (go_at_call 11; (refine (CIN.out _ _ _ _ _ ((((rs_wrap _ rfl (HRA.out.keep (keeps_of_below hB10))).keep (keeps_alloc _ _)).keep (keeps_alloc _ _)).keep (keeps_alloc _ _)) ((rs_wrap _ (by simp) (((HRB.out.keep (keeps_of_below hB10)).keep (keeps_alloc _ _)).keep (keeps_alloc _ _))).keep (keeps_alloc _ _))).mono ?_); rintro e w11 ⟨rfl, hb11⟩; have hB11 := keeps_below (keeps_below (keeps_below (keeps_below (keeps_below hB10 ((Below.refl _ _).alloc (Nat.le_refl _) _)) ((Below.refl _ _).alloc (Nat.le_refl _) _)) ((Below.refl _ _).alloc (Nat.le_refl _) _)) ((Below.refl _ _).alloc (Nat.le_refl _) _)) hb11; have hK11 := Lib.hid (hK10.out.trans (((((keeps_alloc _ _).trans (keeps_alloc _ _)).trans (keeps_alloc _ _)).trans (keeps_alloc _ _)).trans (keeps_of_below hb11))); clear hb11 p0 p1 p2 p3 p4 p5 p6 q0 q1 q2 q3 q4 q5 q6 r0 r1' r2' r3 r4 r5 r6; obtain ⟨p0, p1, p2, p3, p4, p5, p6⟩ := (HS.out _ hK11.out).1; obtain ⟨q0, q1, q2, q3, q4, q5, q6⟩ := (HS.out _ hK11.out).2.1)
        | (go_at_call 10; (with_reducible refine (CTa.out _ (keeps_of_below hB11)).mono ?_); rintro e w12 ⟨A1, l1, c1, rfl, _, hb12⟩; have hB12 := keeps_below hB11 hb12; have hK12 := Lib.hid (hK11.out.trans (keeps_of_below hb12)); clear hb12 p0 p1 p2 p3 p4 p5 p6 q0 q1 q2 q3 q4 q5 q6; obtain ⟨q0, q1, q2, q3, q4, q5, q6⟩ := (HS.out _ hK12.out).2.1; unfold vVal)
        | (go_at_call 10; (with_reducible refine (CTb.out _ (keeps_of_below hB12)).mono ?_); rintro e w13 ⟨A2, l2, c2, rfl, _, hb13⟩; have hB13 := keeps_below hB12 hb13; clear hb13; unfold vVal))
      cases s2
      · cases s1
        · go_wp2_with fail
          go_ret
          exact ⟨rfl, hB13⟩
        · obtain ⟨rfl, rfl⟩ := HTR.out (by simp) (by simp) (by simp) (by simp)
          go_wp2_with fail
          go_ret
          exact ⟨rfl, hB13⟩
      · go_wp2_with fail
        go_ret
        exact ⟨rfl, hB13⟩
    · obtain ⟨e2, _⟩ := HIN.out hka hkb
      subst e2
      go_upto_region 20 with (first
        | (go_at_call 11; (refine (CIN.out _ _ _ _ _ ((((rs_wrap _ rfl (HRA.out.keep (keeps_of_below hB10))).keep (keeps_alloc _ _)).keep (keeps_alloc _ _)).keep (keeps_alloc _ _)) ((rs_wrap _ (by simp) (((HRB.out.keep (keeps_of_below hB10)).keep (keeps_alloc _ _)).keep (keeps_alloc _ _))).keep (keeps_alloc _ _))).mono ?_); rintro e w11 ⟨rfl, hb11⟩; have hB11 := keeps_below (keeps_below (keeps_below (keeps_below (keeps_below hB10 ((Below.refl _ _).alloc (Nat.le_refl _) _)) ((Below.refl _ _).alloc (Nat.le_refl _) _)) ((Below.refl _ _).alloc (Nat.le_refl _) _)) ((Below.refl _ _).alloc (Nat.le_refl _) _)) hb11; have hK11 := Lib.hid (hK10.out.trans (((((keeps_alloc _ _).trans (keeps_alloc _ _)).trans (keeps_alloc _ _)).trans (keeps_alloc _ _)).trans (keeps_of_below hb11))); clear hb11 p0 p1 p2 p3 p4 p5 p6 q0 q1 q2 q3 q4 q5 q6 r0 r1' r2' r3 r4 r5 r6; obtain ⟨p0, p1, p2, p3, p4, p5, p6⟩ := (HS.out _ hK11.out).1; obtain ⟨q0, q1, q2, q3, q4, q5, q6⟩ := (HS.out _ hK11.out).2.1)
        | (go_at_call 10; (with_reducible refine (CTa.out _ (keeps_of_below hB11)).mono ?_); rintro e w12 ⟨A1, l1, c1, rfl, _, hb12⟩; have hB12 := keeps_below hB11 hb12; have hK12 := Lib.hid (hK11.out.trans (keeps_of_below hb12)); clear hb12 p0 p1 p2 p3 p4 p5 p6 q0 q1 q2 q3 q4 q5 q6; obtain ⟨q0, q1, q2, q3, q4, q5, q6⟩ := (HS.out _ hK12.out).2.1; unfold vVal)
        | (go_at_call 10; (with_reducible refine (CTb.out _ (keeps_of_below hB12)).mono ?_); rintro e w13 ⟨A2, l2, c2, rfl, _, hb13⟩; have hB13 := keeps_below hB12 hb13; clear hb13; unfold vVal))
      go_wp2_with fail
      all_goals
        go_ret
        exact ⟨rfl, hB13⟩

end

/-- laws.FnVaEqualAll. -/
theorem lawEqAll_any (da db dc : GVal) (w : World) (A A' A'' : Option Addr) (len cap len' cap' len'' cap'' : Nat) (wa : da.wf) (wb : db.wf) (wc : dc.wf) (ha : RS w da.l A len) (hb : RS w db.l A' len') (hc : RS w dc.l A'' len'') :
    Calls Tryd.prog 4 #[vVal da A len cap, vVal db A' len' cap', vVal dc A'' len'' cap''] w (YesEnd w) := by
  have cFa := fun wx => fits7_any da wx A len cap wa ha.1
  have cFb := fun wx => fits7_any db wx A' len' cap' wb hb.1
  have cFc := fun wx => fits7_any dc wx A'' len'' cap'' wc hc.1
  cases h1 : fits7 da with
  | false => rw [h1] at cFa; exact lawEqAll_no1 da db dc w A A' A'' len cap len' cap' len'' cap'' cFa
  | true =>
    rw [h1] at cFa
    cases h2 : fits7 db with
    | false => rw [h2] at cFb; exact lawEqAll_no2 da db dc w A A' A'' len cap len' cap' len'' cap'' cFa cFb
    | true =>
      rw [h2] at cFb
      cases h3 : fits7 dc with
      | false => rw [h3] at cFc; exact lawEqAll_no3 da db dc w A A' A'' len cap len' cap' len'' cap'' cFa cFb cFc
      | true =>
        rw [h3] at cFc
        have cN := fun wx b h => fine_any [da, db, dc] wx b 0 3 3 rfl (by omega) (by simp only [List.mem_cons, List.not_mem_nil, or_false, forall_eq_or_imp, forall_eq]; exact ⟨wa, wb, wc⟩) h
        by_cases h4 : 0 ≤ fineL [da, db, dc] 65536
        · rw [decide_eq_true h4] at cN
          have h5 : 0 ≤ vaLeft da 20 65536 ∧ 0 ≤ vaLeft db 20 (vaLeft da 20 65536) ∧ 0 ≤ vaLeft dc 20 (vaLeft db 20 (vaLeft da 20 65536)) := by
            unfold fineL fineL fineL fineL at h4
            rw [if_neg (by omega)] at h4
            by_cases e1 : vaLeft da 20 65536 < 0
            · rw [if_pos e1] at h4; omega
            rw [if_neg e1] at h4
            by_cases e2 : vaLeft db 20 (vaLeft da 20 65536) < 0
            · rw [if_pos e2] at h4; omega
            rw [if_neg e2] at h4
            exact ⟨by omega, by omega, h4⟩
          obtain ⟨ga, sa⟩ := left_good da 20 _ h5.1
          obtain ⟨gb, sb⟩ := left_good db 20 _ h5.2.1
          obtain ⟨gc, sc⟩ := left_good dc 20 _ h5.2.2
          have sza : da.size ≤ 65536 := by omega
          have szb : db.size ≤ 65536 := by omega
          have szc : dc.size ≤ 65536 := by omega
          have su : unitV.size = 1 := rfl
          have wu : unitV.wf := by unfold unitV GVal.wf GAttrs.wf GTime.zero; simp [GAttrs.len, ByteArray.size]
          have swr : ∀ d : GVal, (wrapV d).size = d.size + 2 := fun d => by unfold wrapV; simp only [GVal.size, GAttrs.size, su]
          have wwr : ∀ d : GVal, d.wf → (wrapV d).wf := fun d hd => by
            unfold wrapV GVal.wf GAttrs.wf GAttrs.wf GAttrs.wf GTime.zero
            simp [GAttrs.len, ByteArray.size, hd, wu]
          have eAB : cmp da db = ((cmp da db).1, (cmp da db).2) := rfl
          have eBA : cmp db da = ((cmp da db).1, (cmp da db).2) := sEqual_symm _ _
          refine lawEqAll_core da db dc w A A' A'' len cap len' cap' len'' cap'' cFa cFb cFc ha hb hc cN
            (fun wx => by have := implEqV unitV unitV (by omega) (by omega) wu wu wx none none 0 0 0 0 (RS.nil_ _ _) (RS.nil_ _ _); rwa [show cmp unitV unitV = (true, false) from unit_unit] at this)
            (cmp da db).1 (cmp da db).2 (cmp db dc).1 (cmp db dc).2 (cmp da dc).1 (cmp da dc).2 (cmp (wrapV da) (wrapV db)).1 (cmp (wrapV da) (wrapV db)).2
            (fun wx hx => implEqV da db (by omega) (by omega) wa wb wx A A' len cap len' cap' (ha.keep hx) (hb.keep hx))
            (fun wx hx => by have := implEqV db da (by omega) (by omega) wb wa wx A' A len' cap' len cap (hb.keep hx) (ha.keep hx); rwa [eBA] at this)
            (fun wx hx => implEqV db dc (by omega) (by omega) wb wc wx A' A'' len' cap' len'' cap'' (hb.keep hx) (hc.keep hx))
            (fun wx hx => implEqV da dc (by omega) (by omega) wa wc wx A A'' len cap len'' cap'' (ha.keep hx) (hc.keep hx))
            (fun wx P P' c c' h h' => implEqV (wrapV da) (wrapV db) (by rw [swr]; omega) (by rw [swr]; omega) (wwr da wa) (wwr db wb) wx P P' 2 c 2 c' h h')
            (vaTidy da) (vaTidy db) (fun wx hx => tidy_any da wx A len cap (by omega) (ha.keep hx)) (fun wx hx => tidy_any db wx A' len' cap' (by omega) (hb.keep hx))
            (fun h1 h2 => wrap_wrap h1 h2) (fun h1 h2 h3 h4 => ?_)
          have t := sEqual_trans (valueOf none da) (valueOf none db) (valueOf none dc) (Prod.ext h1 h2) (Prod.ext h3 h4)
          unfold cmp
          rw [t]
          exact ⟨rfl, rfl⟩
        · rw [decide_eq_false h4] at cN
          exact lawEqAll_no4 da db dc w A A' A'' len cap len' cap' len'' cap'' cFa cFb cFc ha hb hc cN

end Go.Proofs.YtcgdnjigocknbaaDoor.Va

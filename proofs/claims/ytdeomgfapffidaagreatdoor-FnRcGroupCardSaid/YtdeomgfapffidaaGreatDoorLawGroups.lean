/- The statement FnVaGroups: the walk. -/
import Derived.Test.YtdeomgfapffidaaGreatDoorIGroups
import Derived.Test.YtdeomgfapffidaaGreatDoorSameB
import Derived.Test.YtdeomgfapffidaaGreatDoorRvs
import Derived.Deep.RegionHeld3
namespace Go.Proofs.YtdeomgfapffidaaGreatDoor.Va
set_option linter.unusedVariables false
set_option linter.unusedSimpArgs false
open Go Go.RowKit

/-- laws.vaFineAll. -/
theorem fineAll_any (l : GAttrs) (w : World) (A : Option Addr) (len cap : Nat) (hw : l.wf) (hl : RS w l A len) (hlen : len ≤ 140737488355328) :
    Calls Tryz.prog 25 #[.slice A len cap] w (BoolEnd (decide (0 ≤ vaLeftAll l 20 65536)) w) := by
  unfold BoolEnd
  have HL := Lib.hid (fun wx (hk : Keeps w wx) => leftAll_any l wx 20 65536 A len cap hw (hl.keep hk) hlen (by omega) (by omega) (by omega) (by omega))
  clear hl
  go_enter Tryz.func25, Tryz.ntmps25
  go_wp2_with (go_at_call 49; refine (HL.out _ (keeps_of_below (by repeat' (first | with_reducible assumption | with_reducible exact Below.refl _ _ | with_reducible refine Below.setCell ?_ ?_ _ | with_reducible refine Below.alloc ?_ ?_ _ | with_reducible refine Below.drew ?_ | with_reducible refine below_drewN ?_ _ | omega | (simp; done) | (simp; omega))))).mono ?_; rintro e w2 ⟨rfl, hb2⟩; have hB2 := keeps_below (show Below w.heap.size w _ from (by repeat' (first | with_reducible assumption | with_reducible exact Below.refl _ _ | with_reducible refine Below.setCell ?_ ?_ _ | with_reducible refine Below.alloc ?_ ?_ _ | with_reducible refine Below.drew ?_ | with_reducible refine below_drewN ?_ _ | omega | (simp; done) | (simp; omega)))) hb2)
  go_ret
  exact ⟨rfl, hB2⟩

/-- An Attr in a box. -/
def AtBox (w : World) (b : Nat) (key : ByteArray) (d : GVal) (A : Option Addr) (len cap : Nat) : Prop :=
  w.cell? ⟨b, 0, none⟩ = some (.string key) ∧ w.cell? ⟨b, 1, none⟩ = some (.int .i64 d.kind) ∧ w.cell? ⟨b, 2, none⟩ = some (.int .u64 d.n) ∧ w.cell? ⟨b, 3, none⟩ = some (.string d.s) ∧ w.cell? ⟨b, 4, none⟩ = some (.int .i64 d.t.sec) ∧ w.cell? ⟨b, 5, none⟩ = some (.int .i64 d.t.nsec) ∧ w.cell? ⟨b, 6, none⟩ = some (.int .i64 d.t.off) ∧ w.cell? ⟨b, 7, none⟩ = some (.slice A len cap)
theorem AtBox.keep {w w' : World} {b : Nat} {key : ByteArray} {d : GVal} {A : Option Addr} {len cap : Nat} (h : AtBox w b key d A len cap) (hk : Keeps w w') : AtBox w' b key d A len cap :=
  ⟨hk.cell h.1, hk.cell h.2.1, hk.cell h.2.2.1, hk.cell h.2.2.2.1, hk.cell h.2.2.2.2.1, hk.cell h.2.2.2.2.2.1, hk.cell h.2.2.2.2.2.2.1, hk.cell h.2.2.2.2.2.2.2⟩
theorem atbox_new (w : World) (t : TypeId) (key : ByteArray) (d : GVal) (A : Option Addr) (len cap n : Nat) (hn : n = w.heap.size) : AtBox (w.alloc (.cells #[.string key, .int .i64 d.kind, .int .u64 d.n, .string d.s, .int .i64 d.t.sec, .int .i64 d.t.nsec, .int .i64 d.t.off, .slice A len cap] t)) n key d A len cap :=
  ⟨cell_new _ _ _ _ _ _ hn rfl, cell_new _ _ _ _ _ _ hn rfl, cell_new _ _ _ _ _ _ hn rfl, cell_new _ _ _ _ _ _ hn rfl, cell_new _ _ _ _ _ _ hn rfl, cell_new _ _ _ _ _ _ hn rfl, cell_new _ _ _ _ _ _ hn rfl, cell_new _ _ _ _ _ _ hn rfl⟩
theorem cells15 {da db : GVal} {key : ByteArray} {A A' : Option Addr} {len cap len' cap' : Nat} {wx : World} {ba bb : Nat} (h : Box wx ba da A len cap ∧ AtBox wx bb key db A' len' cap') : wx.cell? ⟨ba, 0, none⟩ = some (.int .i64 da.kind) ∧ wx.cell? ⟨ba, 1, none⟩ = some (.int .u64 da.n) ∧ wx.cell? ⟨ba, 2, none⟩ = some (.string da.s) ∧ wx.cell? ⟨ba, 3, none⟩ = some (.int .i64 da.t.sec) ∧ wx.cell? ⟨ba, 4, none⟩ = some (.int .i64 da.t.nsec) ∧ wx.cell? ⟨ba, 5, none⟩ = some (.int .i64 da.t.off) ∧ wx.cell? ⟨ba, 6, none⟩ = some (.slice A len cap) ∧ wx.cell? ⟨bb, 0, none⟩ = some (.string key) ∧ wx.cell? ⟨bb, 1, none⟩ = some (.int .i64 db.kind) ∧ wx.cell? ⟨bb, 2, none⟩ = some (.int .u64 db.n) ∧ wx.cell? ⟨bb, 3, none⟩ = some (.string db.s) ∧ wx.cell? ⟨bb, 4, none⟩ = some (.int .i64 db.t.sec) ∧ wx.cell? ⟨bb, 5, none⟩ = some (.int .i64 db.t.nsec) ∧ wx.cell? ⟨bb, 6, none⟩ = some (.int .i64 db.t.off) ∧ wx.cell? ⟨bb, 7, none⟩ = some (.slice A' len' cap') := by
  obtain ⟨⟨a0, a1, a2, a3, a4, a5, a6⟩, b0, b1, b2, b3, b4, b5, b6, b7⟩ := h
  exact ⟨a0, a1, a2, a3, a4, a5, a6, b0, b1, b2, b3, b4, b5, b6, b7⟩

section
variable (key : ByteArray) (l : GAttrs) (w : World) (A : Option Addr) (len cap : Nat)

set_option maxRecDepth 100000 in
set_option maxHeartbeats 400000 in
theorem lawGroups_no1 (h : (2147483647 : Int) < (key.size : Int)) : Calls Tryz.prog 7 #[.string key, .slice A len cap] w (YesEnd w) := by
  unfold YesEnd
  go_enter Tryz.func7, Tryz.ntmps7
  go_wp2
  go_ret
  exact ⟨rfl, Below.refl _ _⟩

set_option maxRecDepth 100000 in
set_option maxHeartbeats 400000 in
theorem lawGroups_no2 (h : ¬ (2147483647 : Int) < (key.size : Int)) (h2 : (2147483647 : Int) < (len : Int)) : Calls Tryz.prog 7 #[.string key, .slice A len cap] w (YesEnd w) := by
  unfold YesEnd
  go_enter Tryz.func7, Tryz.ntmps7
  go_wp2
  go_ret
  exact ⟨rfl, Below.refl _ _⟩

set_option maxRecDepth 100000 in
set_option maxHeartbeats 400000 in
theorem lawGroups_no3 (h : ¬ (2147483647 : Int) < (key.size : Int)) (h2 : ¬ (2147483647 : Int) < (len : Int)) (cF : ∀ wx, Keeps w wx → Calls Tryz.prog 25 #[.slice A len cap] wx (BoolEnd false wx)) : Calls Tryz.prog 7 #[.string key, .slice A len cap] w (YesEnd w) := by
  unfold YesEnd
  have CF := Lib.hid cF
  clear cF
  go_enter Tryz.func7, Tryz.ntmps7
  go_wp2_with (go_at_call 25; (with_reducible refine (CF.out _ (keeps_of_below (by repeat' (first | with_reducible assumption | with_reducible exact Below.refl _ _ | with_reducible refine Below.setCell ?_ ?_ _ | with_reducible refine Below.alloc ?_ ?_ _ | with_reducible refine Below.drew ?_ | with_reducible refine below_drewN ?_ _ | omega | (simp; done) | (simp; omega))))).mono ?_); rintro e w2 ⟨rfl, hb2⟩; have hB2 := keeps_below (show Below w.heap.size w _ from (by repeat' (first | with_reducible assumption | with_reducible exact Below.refl _ _ | with_reducible refine Below.setCell ?_ ?_ _ | with_reducible refine Below.alloc ?_ ?_ _ | with_reducible refine Below.drew ?_ | with_reducible refine below_drewN ?_ _ | omega | (simp; done) | (simp; omega)))) hb2)
  go_ret
  exact ⟨rfl, hB2⟩

set_option maxRecDepth 100000 in
set_option maxHeartbeats 400000 in
theorem lawGroups_no4 (h : ¬ (2147483647 : Int) < (key.size : Int)) (h2 : ¬ (2147483647 : Int) < (len : Int)) (h3 : (65536 : Int) < (key.size : Int)) (cF : ∀ wx, Keeps w wx → Calls Tryz.prog 25 #[.slice A len cap] wx (BoolEnd true wx)) : Calls Tryz.prog 7 #[.string key, .slice A len cap] w (YesEnd w) := by
  unfold YesEnd
  have CF := Lib.hid cF
  clear cF
  go_enter Tryz.func7, Tryz.ntmps7
  go_wp2_with (go_at_call 25; (with_reducible refine (CF.out _ (keeps_of_below (by repeat' (first | with_reducible assumption | with_reducible exact Below.refl _ _ | with_reducible refine Below.setCell ?_ ?_ _ | with_reducible refine Below.alloc ?_ ?_ _ | with_reducible refine Below.drew ?_ | with_reducible refine below_drewN ?_ _ | omega | (simp; done) | (simp; omega))))).mono ?_); rintro e w2 ⟨rfl, hb2⟩; have hB2 := keeps_below (show Below w.heap.size w _ from (by repeat' (first | with_reducible assumption | with_reducible exact Below.refl _ _ | with_reducible refine Below.setCell ?_ ?_ _ | with_reducible refine Below.alloc ?_ ?_ _ | with_reducible refine Below.drew ?_ | with_reducible refine below_drewN ?_ _ | omega | (simp; done) | (simp; omega)))) hb2)
  go_ret
  exact ⟨rfl, hB2⟩

set_option maxRecDepth 100000 in
set_option maxHeartbeats 1000000 in
theorem lawGroups_core (h : ¬ (2147483647 : Int) < (key.size : Int)) (h2 : ¬ (2147483647 : Int) < (len : Int)) (h3 : ¬ (65536 : Int) < (key.size : Int)) (cF : ∀ wx, Keeps w wx → Calls Tryz.prog 25 #[.slice A len cap] wx (BoolEnd true wx))
    (lt lm : GAttrs) (cT : ∀ wx, Keeps w wx → Calls Tryz.prog 26 #[.slice A len cap] wx (ListPost lt wx)) (cM : ∀ wx, Keeps w wx → Calls Tryz.prog 28 #[.slice A len cap] wx (TidyPost (.mk 8 0 ByteArray.empty .zero lm) wx))
    (cG : ∀ wx, Keeps w wx → Calls Tryz.prog 27 #[.string key, .slice A len cap] wx (AtPost key (.mk 8 0 ByteArray.empty .zero lm) wx))
    (cS : ∀ wx A1 A2 l1 c1 l2 c2, RS wx lm A1 l1 → RS wx lt A2 l2 → Calls Tryz.prog 18 #[vVal (.mk 8 0 ByteArray.empty .zero lm) A1 l1 c1, vVal (.mk 8 0 ByteArray.empty .zero lt) A2 l2 c2] wx (YesEnd wx)) :
    Calls Tryz.prog 7 #[.string key, .slice A len cap] w (YesEnd w) := by
  unfold YesEnd
  have CF := Lib.hid cF
  have CT := Lib.hid cT
  have CM := Lib.hid cM
  have CG := Lib.hid cG
  have CS := Lib.hid cS
  clear cF cT cM cG cS
  unfold vVal YesEnd at CS
  unfold TidyPost at CM
  unfold AtPost at CG
  unfold ListPost at CT
  simp only [kind_mk, n_mk, s_mk, t_mk, l_mk, GTime.zero] at CS CM CG
  go_enter Tryz.func7, Tryz.ntmps7
  go_wp2_with (first
    | (go_at_call 25; (with_reducible refine (CF.out _ (keeps_of_below (by repeat' (first | with_reducible assumption | with_reducible exact Below.refl _ _ | with_reducible refine Below.setCell ?_ ?_ _ | with_reducible refine Below.alloc ?_ ?_ _ | with_reducible refine Below.drew ?_ | with_reducible refine below_drewN ?_ _ | omega | (simp; done) | (simp; omega))))).mono ?_); rintro e w2 ⟨rfl, hb2⟩; have hB2 := keeps_below (show Below w.heap.size w _ from (by repeat' (first | with_reducible assumption | with_reducible exact Below.refl _ _ | with_reducible refine Below.setCell ?_ ?_ _ | with_reducible refine Below.alloc ?_ ?_ _ | with_reducible refine Below.drew ?_ | with_reducible refine below_drewN ?_ _ | omega | (simp; done) | (simp; omega)))) hb2)
    | (go_at_call 26; (with_reducible refine (CT.out _ (keeps_of_below hB2)).mono ?_); rintro e w3 ⟨A3, l3, c3, rfl, hr3, hb3⟩; have hB3 := keeps_below hB2 hb3; have hs3 := hB3.size; have HR3 := Lib.hid hr3.rs; clear hr3 hb3; have HXA := Lib.hid (box_new w3 27 (.mk 8 0 ByteArray.empty .zero lt) A3 l3 c3 _ rfl); simp only [kind_mk, n_mk, s_mk, t_mk, l_mk, GTime.zero] at HXA)
    | (go_at_call 27; (with_reducible refine (CG.out _ (keeps_of_below (by repeat' (first | with_reducible assumption | with_reducible exact Below.refl _ _ | with_reducible refine Below.setCell ?_ ?_ _ | with_reducible refine Below.alloc ?_ ?_ _ | with_reducible refine Below.drew ?_ | with_reducible refine below_drewN ?_ _ | omega | (simp; done) | (simp; omega))))).mono ?_); rintro e w4 ⟨A4, l4, c4, rfl, hr4, hb4⟩; have hK4 := Lib.hid (keeps_of_below hb4); have hB4 := keeps_below (show Below w.heap.size w _ from (by repeat' (first | with_reducible assumption | with_reducible exact Below.refl _ _ | with_reducible refine Below.setCell ?_ ?_ _ | with_reducible refine Below.alloc ?_ ?_ _ | with_reducible refine Below.drew ?_ | with_reducible refine below_drewN ?_ _ | omega | (simp; done) | (simp; omega)))) hb4; have HR4 := Lib.hid hr4.rs; clear hr4 hb4; unfold vAt))
  have HXA4 := Lib.hid (HXA.out.keep hK4.out)
  have HL4 := Lib.hid (HR3.out.keep ((keeps_alloc _ _).trans hK4.out))
  have HXB := Lib.hid (atbox_new w4 41 key (.mk 8 0 ByteArray.empty .zero lm) A4 l4 c4 _ rfl)
  have hB5 := Lib.hid (hB4.alloc hB4.size (.cells #[.string key, .int .i64 8, .int .u64 0, .string ByteArray.empty, .int .i64 0, .int .i64 0, .int .i64 0, .slice A4 l4 c4] 41))
  have HL5 := Lib.hid (HL4.out.keep (keeps_alloc w4 (.cells #[.string key, .int .i64 8, .int .u64 0, .string ByteArray.empty, .int .i64 0, .int .i64 0, .int .i64 0, .slice A4 l4 c4] 41)))
  have HR5 := Lib.hid (HR4.out.keep (keeps_alloc w4 (.cells #[.string key, .int .i64 8, .int .u64 0, .string ByteArray.empty, .int .i64 0, .int .i64 0, .int .i64 0, .slice A4 l4 c4] 41)))
  have HXA5 := Lib.hid (HXA4.out.keep (keeps_alloc w4 (.cells #[.string key, .int .i64 8, .int .u64 0, .string ByteArray.empty, .int .i64 0, .int .i64 0, .int .i64 0, .slice A4 l4 c4] 41)))
  simp only [kind_mk, n_mk, s_mk, t_mk, l_mk, GTime.zero] at HXB
  clear hK4 HXA4 HL4 HR4 HXA HR3
  generalize w4.alloc (.cells #[.string key, .int .i64 8, .int .u64 0, .string ByteArray.empty, .int .i64 0, .int .i64 0, .int .i64 0, .slice A4 l4 c4] 41) = w5 at HXB hB5 HL5 HR5 HXA5 ⊢
  have HS5 := Lib.hid (fun wx (hx : Keeps w5 wx) => show wx.cell? ⟨w3.heap.size, 0, none⟩ = some (.int .i64 8) ∧ wx.cell? ⟨w3.heap.size, 1, none⟩ = some (.int .u64 0) ∧ wx.cell? ⟨w3.heap.size, 2, none⟩ = some (.string ByteArray.empty) ∧ wx.cell? ⟨w3.heap.size, 3, none⟩ = some (.int .i64 0) ∧ wx.cell? ⟨w3.heap.size, 4, none⟩ = some (.int .i64 0) ∧ wx.cell? ⟨w3.heap.size, 5, none⟩ = some (.int .i64 0) ∧ wx.cell? ⟨w3.heap.size, 6, none⟩ = some (.slice A3 l3 c3) ∧ wx.cell? ⟨w4.heap.size, 0, none⟩ = some (.string key) ∧ wx.cell? ⟨w4.heap.size, 1, none⟩ = some (.int .i64 8) ∧ wx.cell? ⟨w4.heap.size, 2, none⟩ = some (.int .u64 0) ∧ wx.cell? ⟨w4.heap.size, 3, none⟩ = some (.string ByteArray.empty) ∧ wx.cell? ⟨w4.heap.size, 4, none⟩ = some (.int .i64 0) ∧ wx.cell? ⟨w4.heap.size, 5, none⟩ = some (.int .i64 0) ∧ wx.cell? ⟨w4.heap.size, 6, none⟩ = some (.int .i64 0) ∧ wx.cell? ⟨w4.heap.size, 7, none⟩ = some (.slice A4 l4 c4) from cells15 ⟨HXA5.out.keep hx, HXB.out.keep hx⟩)
  obtain ⟨q0, q1, q2, q3, q4, q5, q6, r0, r1, r2, r3, r4, r5, r6, r7⟩ := HS5.out _ (Keeps.refl _)
  go_region_held3 (fun wx => wx.cell? ⟨w3.heap.size, 0, none⟩ = some (.int .i64 8) ∧ wx.cell? ⟨w3.heap.size, 1, none⟩ = some (.int .u64 0) ∧ wx.cell? ⟨w3.heap.size, 2, none⟩ = some (.string ByteArray.empty) ∧ wx.cell? ⟨w3.heap.size, 3, none⟩ = some (.int .i64 0) ∧ wx.cell? ⟨w3.heap.size, 4, none⟩ = some (.int .i64 0) ∧ wx.cell? ⟨w3.heap.size, 5, none⟩ = some (.int .i64 0) ∧ wx.cell? ⟨w3.heap.size, 6, none⟩ = some (.slice A3 l3 c3) ∧ wx.cell? ⟨w4.heap.size, 0, none⟩ = some (.string key) ∧ wx.cell? ⟨w4.heap.size, 1, none⟩ = some (.int .i64 8) ∧ wx.cell? ⟨w4.heap.size, 2, none⟩ = some (.int .u64 0) ∧ wx.cell? ⟨w4.heap.size, 3, none⟩ = some (.string ByteArray.empty) ∧ wx.cell? ⟨w4.heap.size, 4, none⟩ = some (.int .i64 0) ∧ wx.cell? ⟨w4.heap.size, 5, none⟩ = some (.int .i64 0) ∧ wx.cell? ⟨w4.heap.size, 6, none⟩ = some (.int .i64 0) ∧ wx.cell? ⟨w4.heap.size, 7, none⟩ = some (.slice A4 l4 c4))
    (first | with_reducible exact HS5.out _ hK7.out | with_reducible exact HS5.out _ hK8.out | with_reducible exact HS5.out _ hK9.out | with_reducible exact HS5.out _ (keeps_drew _))
    (first
      | (go_at_call 28; ((with_reducible refine (CM.out _ ((keeps_of_below hB5.out).trans (keeps_drew _))).mono ?_); rintro e w7 ⟨A7, l7, c7, rfl, hr7, hb7⟩; have hK7 := Lib.hid ((keeps_drew w5).trans (keeps_of_below hb7)); have hR7 := Lib.hid hr7.rs; have hB7 := Lib.hid (keeps_below hB5.out.drew hb7); clear hr7 hb7; unfold vVal; simp only [kind_mk, n_mk, s_mk, t_mk, l_mk]))
      | (go_at_call 18; ((with_reducible refine (CS.out w7 A7 A3 l7 c7 l3 c3 hR7.out (HL5.out.keep hK7.out)).mono ?_); rintro e w8 ⟨rfl, hb8⟩; have hK8 := Lib.hid (hK7.out.trans (keeps_of_below hb8)); have hB8 := keeps_below hB7.out hb8; clear hb8))
      | (go_at_call 18; ((with_reducible refine (CS.out w8 A4 A3 l4 c4 l3 c3 (HR5.out.keep hK8.out) (HL5.out.keep hK8.out)).mono ?_); rintro e w9 ⟨rfl, hb9⟩; have hK9 := Lib.hid (hK8.out.trans (keeps_of_below hb9)); have hB9 := keeps_below hB8 hb9; clear hb9)))
  go_wp2
  go_ret
  exact ⟨rfl, hB9⟩
end

/-- laws.FnVaGroups. -/
theorem lawGroups_any (key : ByteArray) (l : GAttrs) (w : World) (A : Option Addr) (len cap : Nat) (hlen : l.len ≤ 140737488355328) (hw : l.wf) (hl : RS w l A len) :
    Calls Tryz.prog 7 #[.string key, .slice A len cap] w (YesEnd w) := by
  have hll := hl.1
  by_cases h1 : (2147483647 : Int) < (key.size : Int)
  · exact lawGroups_no1 key w A len cap h1
  by_cases h2 : (2147483647 : Int) < (len : Int)
  · exact lawGroups_no2 key w A len cap h1 h2
  have cF := fun wx (hk : Keeps w wx) => fineAll_any l wx A len cap hw (hl.keep hk) (by omega)
  by_cases h3 : 0 ≤ vaLeftAll l 20 65536
  · rw [decide_eq_true h3] at cF
    by_cases h4 : (65536 : Int) < (key.size : Int)
    · exact lawGroups_no4 key w A len cap h1 h2 h4 cF
    obtain ⟨ga, sa⟩ := leftAll_good l 20 65536 h3
    have sza : l.size ≤ 65536 := by omega
    have e1 : told (.group (attrsOf none l).full) = .mk 8 0 ByteArray.empty .zero (attrsTold (attrsOf none l).full) := by simp only [told]
    refine lawGroups_core key w A len cap h1 h2 h4 cF (vaTidyAll l) (attrsTold (attrsOf none l).full) (fun wx hk => tidyAll_any l wx A len cap (by omega) (hl.keep hk)) (fun wx hk => by rw [← e1]; exact implList_any l wx A len cap sza hw (hl.keep hk)) (fun wx hk => implGroup_any key l wx A len cap sza hw (hl.keep hk)) ?_
    have hgd : good (.mk 8 0 ByteArray.empty .zero l) := by unfold good; exact ⟨by omega, by omega, fun h => by omega, fun h => by omega, fun h => by omega, fun h => by omega, ga⟩
    have hwd : (GVal.mk 8 0 ByteArray.empty .zero l).wf := by unfold GVal.wf; exact ⟨by omega, by omega, Nat.zero_le _, by decide, by decide, by decide, hlen, hw⟩
    have hP := made_size none _ (.mk 8 0 ByteArray.empty .zero l) (Nat.le_refl _) hwd hgd
    have e2 : vaTidy (.mk 8 0 ByteArray.empty .zero l) = .mk 8 0 ByteArray.empty .zero (vaTidyAll l) := ptidy_grp _ _ _ _
    have e3 : valueOf none (.mk 8 0 ByteArray.empty .zero l) = .group (attrsOf none l).full := pvalue_grp _ _ _ _ _
    have hz := told_gsize none (.mk 8 0 ByteArray.empty .zero l)
    rw [e3, e1] at hP hz
    rw [e2] at hP
    have hsz : (GVal.mk 8 0 ByteArray.empty .zero l).size = l.size + 1 := by simp only [GVal.size]
    exact fun wx A1 A2 l1 c1 l2 c2 h1 h2 => same_any_v _ (by omega) _ wx A1 A2 l1 c1 l2 c2 hP h1 h2
  · rw [decide_eq_false h3] at cF
    exact lawGroups_no3 key w A len cap h1 h2 cF

end Go.Proofs.YtdeomgfapffidaaGreatDoor.Va

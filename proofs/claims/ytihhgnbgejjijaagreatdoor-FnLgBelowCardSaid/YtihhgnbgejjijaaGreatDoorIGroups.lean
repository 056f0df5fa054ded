/- impl.AnyList, impl.GroupAttrs. -/
import Derived.Test.YtihhgnbgejjijaaGreatDoorIAgain
namespace Go.Proofs.YtihhgnbgejjijaaGreatDoor.Va
set_option linter.unusedVariables false
set_option linter.unusedSimpArgs false
open Go Go.RowKit

set_option maxRecDepth 100000 in
set_option maxHeartbeats 1000000 in
/-- impl.AnyList. -/
theorem implList_any (l : GAttrs) (w : World) (A : Option Addr) (len cap : Nat) (hs : l.size ≤ 65536) (hw : l.wf) (hl : RS w l A len) :
    Calls Tryz.prog 49 #[.slice A len cap] w (TidyPost (told (.group (attrsOf none l).full)) w) := by
  unfold TidyPost
  have HV := Lib.hid (fun wx (hk : Keeps w wx) => attrsOf_any none l wx A len cap (by omega) hw (hl.keep hk))
  have HZ := Lib.hid (show vSize (.group (attrsOf none l).full) ≤ 700000 by have h1 := vsize_all none l; have h2 := vsize_full (attrsOf none l); simp only [vSize]; omega)
  have HLn := Lib.hid (show (attrsOf none l).len ≤ 300000 by have h1 := slen_attrsOf none l; have h2 := len_le_size l; omega)
  clear hs hw hl
  go_enter Tryz.func49, Tryz.ntmps49
  go_wp2_with (first
    | (go_at_call 67; refine (HV.out _ (keeps_of_below (by repeat' (first | with_reducible assumption | with_reducible exact Below.refl _ _ | with_reducible refine Below.setCell ?_ ?_ _ | with_reducible refine Below.alloc ?_ ?_ _ | with_reducible refine Below.drew ?_ | with_reducible refine below_drewN ?_ _ | omega | (simp; done) | (simp; omega))))).mono ?_; rintro e w1 ⟨A1, len1, cap1, rfl, hr1, hb1⟩; have hB1 := keeps_below (show Below w.heap.size w _ from (by repeat' (first | with_reducible assumption | with_reducible exact Below.refl _ _ | with_reducible refine Below.setCell ?_ ?_ _ | with_reducible refine Below.alloc ?_ ?_ _ | with_reducible refine Below.drew ?_ | with_reducible refine below_drewN ?_ _ | omega | (simp; done) | (simp; omega)))) hb1; obtain ⟨hc1, hf1⟩ := bcell hb1; have hz1 := hb1.size; (try simp at hz1); have e10 : w.heap.size < w1.heap.size := (by omega); have HR1 := Lib.hid hr1; clear hr1)
    | (go_at_call 100; (refine (mk_group (P := fun b => w.heap.size + 1 ≤ b) (attrsOf none l) _ A1 len1 cap1 (HR1.out.turn (KeepsOn.refl _ _) (fun b hb _ => by simp at hb; omega)) (by have h1 := HR1.out.1; have h2 := HLn.out; omega) (fun b hb => by omega)).mono ?_); rintro e w2 ⟨x2, y2, rfl, hr2, hb2⟩; have hB2 := keeps_below (show Below w.heap.size w _ from (by repeat' (first | with_reducible assumption | with_reducible exact Below.refl _ _ | with_reducible refine Below.setCell ?_ ?_ _ | with_reducible refine Below.alloc ?_ ?_ _ | with_reducible refine Below.drew ?_ | with_reducible refine below_drewN ?_ _ | omega | (simp; done) | (simp; omega)))) hb2; obtain ⟨hc2, hf2⟩ := bcell hb2; have hz2 := hb2.size; (try simp at hz2); have e20 : w.heap.size < w2.heap.size := (by omega); have HR2 := Lib.hid hr2; clear hr2)
    | (go_at_call 97; refine (told_any _ _ _ _ _ HZ.out HR2.out).mono ?_; rintro e w3 ⟨A3, len3, cap3, rfl, hr3, hb3⟩; have hB3 := keeps_below (show Below w.heap.size w _ from (by repeat' (first | with_reducible assumption | with_reducible exact Below.refl _ _ | with_reducible refine Below.setCell ?_ ?_ _ | with_reducible refine Below.alloc ?_ ?_ _ | with_reducible refine Below.drew ?_ | with_reducible refine below_drewN ?_ _ | omega | (simp; done) | (simp; omega)))) hb3; obtain ⟨hc3, hf3⟩ := bcell hb3; have hz3 := hb3.size; (try simp at hz3); have e30 : w.heap.size < w3.heap.size := (by omega); have HR3 := Lib.hid hr3; clear hr3; unfold vVal))
  refine bodyPost_ret (v := vVal (told (.group (attrsOf none l).full)) A3 len3 cap3) ?_ rfl ⟨_, _, _, rfl, HR3.out.turn (by repeat' (first | with_reducible assumption | with_reducible exact KeepsOn.refl _ _ | with_reducible refine KeepsOn.setCell ?_ ?_ _ | with_reducible refine KeepsOn.alloc ?_ _ | with_reducible refine KeepsOn.drew ?_ | (intro b hb; simp at hb ⊢; omega) | (rintro b ⟨_, hb⟩; simp at hb ⊢; omega) | (rintro b ⟨_, hb⟩; omega))) (fun b hb _ => by simp at hb ⊢; omega), ?_⟩
  · simp [results, Tryz.results49, go_sem, hc1, hf1, e10, hc2, hf2, e20, hc3, hf3, e30]; (try rfl)
  · exact below_set7 hB3 (by omega) _ _ _ _ _ _ _

/-- An Attr of package impl. -/
def vAt (key : ByteArray) (d : GVal) (A : Option Addr) (len cap : Nat) : Value := .agg #[.string key, .int .i64 d.kind, .int .u64 d.n, .string d.s, .int .i64 d.t.sec, .int .i64 d.t.nsec, .int .i64 d.t.off, .slice A len cap]
def AtPost (key : ByteArray) (d : GVal) (w : World) (e : Ending) (w' : World) : Prop := ∃ A' len' cap', e = .returned (vAt key d A' len' cap') ∧ RSP (New w) w' d.l A' len' ∧ Below w.heap.size w w'

/-- What slog.GroupAttrs hands back. -/
def SAtPost (P : Nat → Prop) (key : ByteArray) (l : SAttrs) (w : World) (e : Ending) (w' : World) : Prop := ∃ A len cap, e = .returned (.agg #[.string key, .int .u64 (len : Nat), .iface 245 (.slice A len cap)]) ∧ RSS P w' l A len ∧ Below w.heap.size w w'

set_option maxRecDepth 100000 in
set_option maxHeartbeats 1000000 in
/-- slog.GroupAttrs. -/
theorem sgroup_any {P : Nat → Prop} (key : ByteArray) (l : SAttrs) (w : World) (A : Option Addr) (len cap : Nat) (hl : RSS P w l A len) (hlen : len ≤ 300000) (hP : ∀ b, w.heap.size ≤ b → P b) :
    Calls Tryz.prog 103 #[.string key, .slice A len cap] w (SAtPost P key l.full w) := by
  unfold SAtPost
  have Hl := Lib.hid (hl.turn (Q := fun b => (P b ∧ b < w.heap.size) ∨ w.heap.size + 1 ≤ b) (KeepsOn.refl _ _) (fun b h h' => .inl ⟨h, h'⟩))
  have HP := Lib.hid hP
  clear hl hP
  go_enter Tryz.func103, Tryz.ntmps103
  go_wp2_with (go_at_call 131; refine (groupValue_any (P := fun b => (P b ∧ b < w.heap.size) ∨ w.heap.size + 1 ≤ b) l _ A len cap (Hl.out.turn ((keeps_of_below (by repeat' (first | with_reducible assumption | with_reducible exact Below.refl _ _ | with_reducible refine Below.setCell ?_ ?_ _ | with_reducible refine Below.alloc ?_ ?_ _ | with_reducible refine Below.drew ?_ | with_reducible refine below_drewN ?_ _ | omega | (simp; done) | (simp; omega)))).on _) (fun _ x _ => x)) hlen (fun b hb => .inr (by simp at hb; omega))).mono ?_; rintro e w3 ⟨x3, y3, rfl, hr3, hb3⟩; have hr4 : ∃ A3 len3 cap3, x3 = .int .u64 (len3 : Nat) ∧ y3 = .iface 245 (.slice A3 len3 cap3) ∧ RSS (fun b => (P b ∧ b < w.heap.size) ∨ w.heap.size + 1 ≤ b) w3 l.full A3 len3 := (by unfold RSV at hr3; exact hr3); obtain ⟨A3, len3, cap3, rfl, rfl, hr5⟩ := hr4; have HR3 := Lib.hid hr5; clear hr3 hr5; have hB3 := keeps_below (show Below w.heap.size w _ from (by repeat' (first | with_reducible assumption | with_reducible exact Below.refl _ _ | with_reducible refine Below.setCell ?_ ?_ _ | with_reducible refine Below.alloc ?_ ?_ _ | with_reducible refine Below.drew ?_ | with_reducible refine below_drewN ?_ _ | omega | (simp; done) | (simp; omega)))) hb3; obtain ⟨hc3, hf3⟩ := bcell hb3; have hs3 := hb3.size; (try simp at hs3); have hl3 : w.heap.size < w3.heap.size := (by omega))
  exact bodyPost_ret (v := .agg #[.string key, .int .u64 len3, .iface 245 (.slice A3 len3 cap3)]) (by simp [results, Tryz.results103, go_sem, hc3, hf3, hl3]) rfl ⟨_, _, _, rfl, HR3.out.turn (by repeat' (first | with_reducible assumption | with_reducible exact KeepsOn.refl _ _ | with_reducible refine KeepsOn.setCell ?_ ?_ _ | with_reducible refine KeepsOn.alloc ?_ _ | with_reducible refine KeepsOn.drew ?_ | (intro b hb; simp at hb ⊢; omega) | (rintro b ⟨_, hb⟩; simp at hb ⊢; omega) | (rintro b ⟨_, hb⟩; omega))) (fun b hb _ => by rcases hb with h | h; exact h.1; exact HP.out b (by omega)), (by repeat' (first | with_reducible assumption | with_reducible exact Below.refl _ _ | with_reducible refine Below.setCell ?_ ?_ _ | with_reducible refine Below.alloc ?_ ?_ _ | with_reducible refine Below.drew ?_ | with_reducible refine below_drewN ?_ _ | omega | (simp; done) | (simp; omega)))⟩

theorem below_set8 {B : Nat} {a w : World} (h : Below B a w) {c : Nat} (hc : B ≤ c) (v0 v1 v2 v3 v4 v5 v6 v7 : Value) : Below B a ((((((((w.setCell ⟨c, 0, none⟩ v0).setCell ⟨c, 1, none⟩ v1).setCell ⟨c, 2, none⟩ v2).setCell ⟨c, 3, none⟩ v3).setCell ⟨c, 4, none⟩ v4).setCell ⟨c, 5, none⟩ v5).setCell ⟨c, 6, none⟩ v6).setCell ⟨c, 7, none⟩ v7) :=
  (((((((h.setCell hc _).setCell hc _).setCell hc _).setCell hc _).setCell hc _).setCell hc _).setCell hc _).setCell hc _
theorem keepsOn_set8 {P : Nat → Prop} {w : World} {c : Nat} (hc : ∀ b, P b → b ≠ c) (v0 v1 v2 v3 v4 v5 v6 v7 : Value) : KeepsOn P w ((((((((w.setCell ⟨c, 0, none⟩ v0).setCell ⟨c, 1, none⟩ v1).setCell ⟨c, 2, none⟩ v2).setCell ⟨c, 3, none⟩ v3).setCell ⟨c, 4, none⟩ v4).setCell ⟨c, 5, none⟩ v5).setCell ⟨c, 6, none⟩ v6).setCell ⟨c, 7, none⟩ v7) := by
  have hn : ¬ P c := fun h => hc c h rfl
  exact ((((((((KeepsOn.refl _ _).setCell hc _).setCell hc _).setCell hc _).setCell hc _).setCell hc _).setCell hc _).setCell hc _).setCell hc _

/-- One attribute of package slog in a new block. -/
theorem satt_new {P : Nat → Prop} {w : World} {key : ByteArray} {l : SAttrs} {A : Option Addr} {len cap : Nat} {t : TypeId} (h : RSS P w l A len) :
    RSAs (fun _ => True) (w.alloc (.cells #[.string key, .int .u64 (len : Nat), .iface 245 (.slice A len cap)] t)) (.cons key (.group l) .nil) w.heap.size 0 := by
  unfold RSAs RSV
  refine ⟨cell_new _ _ _ _ _ _ rfl rfl, ⟨_, _, cell_new _ _ _ _ _ _ rfl rfl, cell_new _ _ _ _ _ _ rfl rfl, A, len, cap, rfl, rfl, h.turn ((keeps_of_below ((Below.refl _ _).alloc (Nat.le_refl _) _)).on P) (fun _ _ _ => trivial)⟩, by unfold RSAs; trivial⟩
/-- What is told of it. -/
theorem satt_told {P : Nat → Prop} {w : World} {key : ByteArray} {l : SAttrs} {A : Option Addr} {len : Nat} (h : RSP P w (attrsTold (.cons key (.group l) .nil)) A len) :
    ∃ (b o : Nat) (A' : Option Addr) (len' cap' : Nat), A = some ⟨b, o, none⟩ ∧ len = 1 ∧ w.cell? ⟨b, o, none⟩ = some (.string key) ∧ w.cell? ⟨b, o + 1, none⟩ = some (.int .i64 8) ∧ w.cell? ⟨b, o + 1 + 1, none⟩ = some (.int .u64 0) ∧ w.cell? ⟨b, o + 1 + 2, none⟩ = some (.string ByteArray.empty) ∧ w.cell? ⟨b, o + 1 + 3, none⟩ = some (.int .i64 0) ∧ w.cell? ⟨b, o + 1 + 4, none⟩ = some (.int .i64 0) ∧ w.cell? ⟨b, o + 1 + 5, none⟩ = some (.int .i64 0) ∧ w.cell? ⟨b, o + 1 + 6, none⟩ = some (.slice A' len' cap') ∧ P b ∧ RSP P w (attrsTold l) A' len' := by
  have e : attrsTold (.cons key (.group l) .nil) = .cons key (.mk 8 0 ByteArray.empty .zero (attrsTold l)) .nil := by simp only [attrsTold, told]
  rw [e] at h
  obtain ⟨h0, h1⟩ := h
  have hl : len = 1 := h0
  subst hl
  obtain ⟨b, o, rfl, hp, hr⟩ := h1 (by omega)
  unfold RAsP RValP at hr
  obtain ⟨k0, ⟨k1, k2, k3, k4, k5, k6, A', len', cap', k7, k8, k9⟩, _⟩ := hr
  exact ⟨b, o, A', len', cap', rfl, rfl, k0, k1, k2, k3, k4, k5, k6, k7, hp, k8, k9⟩

set_option maxRecDepth 100000 in
set_option maxHeartbeats 1000000 in
/-- impl.GroupAttrs. -/
theorem implGroup_any (key : ByteArray) (l : GAttrs) (w : World) (A : Option Addr) (len cap : Nat) (hs : l.size ≤ 65536) (hw : l.wf) (hl : RS w l A len) :
    Calls Tryz.prog 50 #[.string key, .slice A len cap] w (AtPost key (.mk 8 0 ByteArray.empty .zero (attrsTold (attrsOf none l).full)) w) := by
  unfold AtPost
  have HV := Lib.hid (fun wx (hk : Keeps w wx) => attrsOf_any none l wx A len cap (by omega) hw (hl.keep hk))
  have HZ := Lib.hid (show vSizeAll (.cons key (.group (attrsOf none l).full) .nil) ≤ 700000 by have h1 := vsize_all none l; have h2 := vsize_full (attrsOf none l); simp only [vSizeAll, vSize]; omega)
  have HLn := Lib.hid (show (attrsOf none l).len ≤ 300000 by have h1 := slen_attrsOf none l; have h2 := len_le_size l; omega)
  clear hs hw hl
  generalize attrsOf none l = L at HV HZ HLn ⊢
  go_enter Tryz.func50, Tryz.ntmps50
  go_wp2_with (first
    | (go_at_call 67; refine (HV.out _ (keeps_of_below (by repeat' (first | with_reducible assumption | with_reducible exact Below.refl _ _ | with_reducible refine Below.setCell ?_ ?_ _ | with_reducible refine Below.alloc ?_ ?_ _ | with_reducible refine Below.drew ?_ | with_reducible refine below_drewN ?_ _ | omega | (simp; done) | (simp; omega))))).mono ?_; rintro e w1 ⟨A1, len1, cap1, rfl, hr1, hb1⟩; have hB1 := keeps_below (show Below w.heap.size w _ from (by repeat' (first | with_reducible assumption | with_reducible exact Below.refl _ _ | with_reducible refine Below.setCell ?_ ?_ _ | with_reducible refine Below.alloc ?_ ?_ _ | with_reducible refine Below.drew ?_ | with_reducible refine below_drewN ?_ _ | omega | (simp; done) | (simp; omega)))) hb1; obtain ⟨hc1, hf1⟩ := bcell hb1; have hz1 := hb1.size; (try simp at hz1); have e10 : w.heap.size < w1.heap.size := (by omega); have HR1 := Lib.hid hr1; clear hr1)
    | (go_at_call 103; refine (sgroup_any (P := fun b => w.heap.size + 1 ≤ b) key L _ A1 len1 cap1 (HR1.out.turn (KeepsOn.refl _ _) (fun b hb _ => by simp at hb; omega)) (by have h1 := HR1.out.1; have h2 := HLn.out; omega) (fun b hb => by omega)).mono ?_; rintro e w2 ⟨A2, len2, cap2, rfl, hr2, hb2⟩; have hB2 := keeps_below (show Below w.heap.size w _ from (by repeat' (first | with_reducible assumption | with_reducible exact Below.refl _ _ | with_reducible refine Below.setCell ?_ ?_ _ | with_reducible refine Below.alloc ?_ ?_ _ | with_reducible refine Below.drew ?_ | with_reducible refine below_drewN ?_ _ | omega | (simp; done) | (simp; omega)))) hb2; obtain ⟨hc2, hf2⟩ := bcell hb2; have hz2 := hb2.size; (try simp at hz2); have e20 : w.heap.size < w2.heap.size := (by omega); have HR2 := Lib.hid hr2; clear hr2)
    | (go_at_call 102; refine (attrsTold_any (.cons key (.group L.full) .nil) (fun _ => True) _ (some ⟨w2.heap.size, 0, none⟩) 1 1 HZ.out ⟨rfl, fun _ => ⟨w2.heap.size, 0, rfl, trivial, satt_new HR2.out⟩⟩).mono ?_; rintro e w3 ⟨A3, len3, cap3, rfl, hr3, hb3⟩; have hB3 := keeps_below (show Below w.heap.size w _ from (by repeat' (first | with_reducible assumption | with_reducible exact Below.refl _ _ | with_reducible refine Below.setCell ?_ ?_ _ | with_reducible refine Below.alloc ?_ ?_ _ | with_reducible refine Below.drew ?_ | with_reducible refine below_drewN ?_ _ | omega | (simp; done) | (simp; omega)))) hb3; obtain ⟨hc3, hf3⟩ := bcell hb3; have hz3 := hb3.size; (try simp at hz3); have e30 : w.heap.size < w3.heap.size := (by omega); obtain ⟨b3, o3, A4, len4, cap4, rfl, rfl, k0, k1, k2, k3, k4, k5, k6, k7, hb4, hr4⟩ := satt_told hr3; have HR4 := Lib.hid hr4; clear hr3 hr4))
  refine bodyPost_ret (v := vAt key (.mk 8 0 ByteArray.empty .zero (attrsTold L.full)) A4 len4 cap4) ?_ rfl ⟨A4, len4, cap4, rfl, HR4.out.turn (keepsOn_set8 (fun b hb => by simp at hb; omega) _ _ _ _ _ _ _ _) (fun b hb _ => by simp at hb ⊢; omega), ?_⟩
  · simp [results, Tryz.results50, go_sem, hc1, hf1, e10, hc2, hf2, e20, hc3, hf3, e30, vAt, GTime.zero, Nat.lt_succ_of_lt e20]; (try rfl)
  · exact below_set8 hB3 (by omega) _ _ _ _ _ _ _ _

end Go.Proofs.YtihhgnbgejjijaaGreatDoor.Va

/- What package spec makes of a value, so that it is as it can be read again (spec.VaTidy, VaTidyAll, VaEnd, vaHead): the walks. -/
import Derived.Test.YtihhgnbgejjijaaGreatDoorLeft
import Derived.Maps.AppendAt
namespace Go.Proofs.YtihhgnbgejjijaaGreatDoor.Va
set_option linter.unusedVariables false
set_option linter.unusedSimpArgs false
open Go Go.RowKit

theorem infoAttr : (Tryz.prog.info? 35).map (fun i => (i.zero, i.size, i.bytes)) = some (some (.agg #[.string ByteArray.empty, .int .i64 0, .int .u64 0, .string ByteArray.empty, .int .i64 0, .int .i64 0, .int .i64 0, .slice none 0 0]), 8, 96) := by kernel_rfl

/-- spec.vaHead. -/
theorem head_any (l : GAttrs) (w : World) (A : Option Addr) (len cap : Nat) (h : RS w l A len) :
    Calls Tryz.prog 105 #[.slice A len cap] w fun e w' => e = .returned (.string l.head) ∧ Below w.heap.size w w' := by
  obtain ⟨h0, h1⟩ := h
  cases l with
  | nil =>
    have : len = 0 := h0
    subst this
    clear h0 h1
    go_enter Tryz.func105, Tryz.ntmps105
    go_wp2
    go_ret
    exact ⟨rfl, Below.refl _ _⟩
  | cons k v r =>
    have hp : 0 < len := by simp only [GAttrs.len] at h0; omega
    obtain ⟨b, o, rfl, hr⟩ := h1 hp
    unfold RAs at hr
    have hk := hr.1
    have hne : ¬ (len : Int) = 0 := by omega
    clear h1 hr h0
    go_enter Tryz.func105, Tryz.ntmps105
    go_wp2
    go_ret
    exact ⟨rfl, Below.refl _ _⟩

/-- What is made is the call's own. -/
abbrev New (w : World) : Nat → Prop := fun b => w.heap.size ≤ b

def TidyV (d : GVal) : Prop := ∀ (w : World) (A : Option Addr) (len cap : Nat), d.size ≤ 700000 → RS w d.l A len →
  Calls Tryz.prog 57 #[vVal d A len cap] w fun e w' => ∃ A' len' cap', e = .returned (vVal (vaTidy d) A' len' cap') ∧ RSP (New w) w' (vaTidy d).l A' len' ∧ Below w.heap.size w w'
def TidyL (l : GAttrs) : Prop := ∀ (w : World) (A : Option Addr) (len cap : Nat), l.size ≤ 700000 → RS w l A len →
  Calls Tryz.prog 16 #[.slice A len cap] w fun e w' => ∃ A' len' cap', e = .returned (.slice A' len' cap') ∧ RSP (New w) w' (vaTidyAll l) A' len' ∧ Below w.heap.size w w'
def EndV (d : GVal) : Prop := ∀ (w : World) (A : Option Addr) (len cap : Nat), d.size ≤ 700000 → RS w d.l A len →
  Calls Tryz.prog 107 #[vVal d A len cap] w fun e w' => ∃ A' len' cap', e = .returned (vVal (vaEnd d.l) A' len' cap') ∧ RSP (New w) w' (vaEnd d.l).l A' len' ∧ Below w.heap.size w w'

set_option maxRecDepth 100000 in
set_option maxHeartbeats 4000000 in
theorem end_val (d : GVal) (ih : ∀ v : GVal, v.size < d.size → TidyV v) : EndV d := by
  obtain ⟨k, n, s, t, l⟩ := d
  intro w A len cap hsz hl
  simp only [vVal, kind_mk, n_mk, s_mk, t_mk, l_mk] at hl ⊢
  obtain ⟨h0, h1⟩ := hl
  cases l with
  | nil =>
    have : len = 0 := h0
    subst this
    have he : vaEnd .nil = GVal.zero := by simp only [vaEnd]
    rw [he]
    clear h0 h1 hsz ih he
    go_enter Tryz.func107, Tryz.ntmps107
    go_wp2
    exact bodyPost_ret (v := vVal GVal.zero none 0 0) (by simp [results, Tryz.results107, go_sem, GVal.zero, GTime.zero]; rfl) rfl ⟨none, 0, 0, rfl, RSP.nil_ _ _ _, (by repeat' (first | with_reducible assumption | with_reducible exact Below.refl _ _ | with_reducible refine Below.setCell ?_ ?_ _ | with_reducible refine Below.alloc ?_ ?_ _ | with_reducible refine Below.drew ?_ | with_reducible refine below_drewN ?_ _ | omega | (simp; done) | (simp; omega)))⟩
  | cons key v r =>
    have hp : 0 < len := by simp only [GAttrs.len] at h0; omega
    have hvs : v.size < 700001 ∧ v.size < (GVal.mk k n s t (.cons key v r)).size := by simp only [GVal.size, GAttrs.size] at hsz ⊢; omega
    obtain ⟨b, o, rfl, hr⟩ := h1 hp
    unfold RAs at hr
    have hv := hr.2.1
    have hne : ¬ (len : Int) = 0 := by omega
    have Hih := Lib.hid (ih v hvs.2)
    have hvs := hvs.1
    have he : vaEnd (.cons key v r) = vaTidy v := by simp only [vaEnd]
    rw [he]
    clear h1 hr h0 hsz ih he
    obtain ⟨vk, vn, vs, vt, vl⟩ := v
    unfold RVal at hv
    obtain ⟨c0, c1, c2, c3, c4, c5, A', len', cap', c6, hlen', hA'⟩ := hv
    have HS := Lib.hid (show RS w vl A' len' from ⟨hlen', hA'⟩)
    clear hlen' hA'
    have hbS : b < w.heap.size := World.block_lt_of_cell? w ⟨b, o + 1, none⟩ c0
    go_enter Tryz.func107, Tryz.ntmps107
    go_wp2_with (go_at_call 57; refine (Hih.out _ _ _ _ (by omega) (HS.out.keep (keeps_of_below (by repeat' (first | with_reducible assumption | with_reducible exact Below.refl _ _ | with_reducible refine Below.setCell ?_ ?_ _ | with_reducible refine Below.alloc ?_ ?_ _ | with_reducible refine Below.drew ?_ | with_reducible refine below_drewN ?_ _ | omega | (simp; done) | (simp; omega)))))).mono ?_; rintro e w2 ⟨A2, len2, cap2, rfl, hr2, hb2⟩; have hB2 := keeps_below (show Below w.heap.size w _ from (by repeat' (first | with_reducible assumption | with_reducible exact Below.refl _ _ | with_reducible refine Below.setCell ?_ ?_ _ | with_reducible refine Below.alloc ?_ ?_ _ | with_reducible refine Below.drew ?_ | with_reducible refine below_drewN ?_ _ | omega | (simp; done) | (simp; omega)))) hb2; obtain ⟨hc2, hf2⟩ := bcell hb2)
    exact bodyPost_ret (v := vVal (vaTidy (.mk vk vn vs vt vl)) A2 len2 cap2) (by simp [results, Tryz.results107, go_sem, hc2, hf2]) rfl ⟨_, _, _, rfl, hr2.turn (by repeat' (first | with_reducible assumption | with_reducible exact KeepsOn.refl _ _ | with_reducible refine KeepsOn.setCell ?_ ?_ _ | with_reducible refine KeepsOn.alloc ?_ _ | with_reducible refine KeepsOn.drew ?_ | (intro b hb; simp at hb ⊢; omega) | (rintro b ⟨_, hb⟩; simp at hb ⊢; omega) | (rintro b ⟨_, hb⟩; omega))) (fun b hb _ => by simp at hb ⊢; omega), (by repeat' (first | with_reducible assumption | with_reducible exact Below.refl _ _ | with_reducible refine Below.setCell ?_ ?_ _ | with_reducible refine Below.alloc ?_ ?_ _ | with_reducible refine Below.drew ?_ | with_reducible refine below_drewN ?_ _ | omega | (simp; done) | (simp; omega)))⟩


/-- What spec.VaTidy hands back. -/
def TidyPost (d : GVal) (w : World) (e : Ending) (w' : World) : Prop := ∃ A' len' cap', e = .returned (vVal d A' len' cap') ∧ RSP (New w) w' d.l A' len' ∧ Below w.heap.size w w'

section
variable (k n : Int) (s : ByteArray) (t : GTime) (w : World) (A : Option Addr) (len cap : Nat)

set_option maxRecDepth 100000 in
set_option maxHeartbeats 4000000 in
theorem tidy_num6  : Calls Tryz.prog 57 #[.agg #[.int .i64 0, .int .u64 6, .string s, .int .i64 t.sec, .int .i64 t.nsec, .int .i64 t.off, .slice A len cap]] w (TidyPost (.mk 0 6 ByteArray.empty ⟨t.sec, 0, 0⟩ .nil) w) := by
  unfold TidyPost
  go_enter Tryz.func57, Tryz.ntmps57
  go_wp2
  all_goals exact bodyPost_ret (v := vVal (.mk 0 6 ByteArray.empty ⟨t.sec, 0, 0⟩ .nil) none 0 0) (by simp [results, Tryz.results57, go_sem, GVal.zero, GTime.zero]; try rfl) rfl ⟨none, 0, 0, rfl, RSP.nil_ _ _ _, (by repeat' (first | with_reducible assumption | with_reducible exact Below.refl _ _ | with_reducible refine Below.setCell ?_ ?_ _ | with_reducible refine Below.alloc ?_ ?_ _ | with_reducible refine Below.drew ?_ | with_reducible refine below_drewN ?_ _ | omega | (simp; done) | (simp; omega)))⟩

set_option maxRecDepth 100000 in
set_option maxHeartbeats 4000000 in
theorem tidy_num7  : Calls Tryz.prog 57 #[.agg #[.int .i64 0, .int .u64 7, .string s, .int .i64 t.sec, .int .i64 t.nsec, .int .i64 t.off, .slice A len cap]] w (TidyPost (.mk 0 7 ByteArray.empty ⟨t.sec, 0, 0⟩ .nil) w) := by
  unfold TidyPost
  go_enter Tryz.func57, Tryz.ntmps57
  go_wp2
  all_goals exact bodyPost_ret (v := vVal (.mk 0 7 ByteArray.empty ⟨t.sec, 0, 0⟩ .nil) none 0 0) (by simp [results, Tryz.results57, go_sem, GVal.zero, GTime.zero]; try rfl) rfl ⟨none, 0, 0, rfl, RSP.nil_ _ _ _, (by repeat' (first | with_reducible assumption | with_reducible exact Below.refl _ _ | with_reducible refine Below.setCell ?_ ?_ _ | with_reducible refine Below.alloc ?_ ?_ _ | with_reducible refine Below.drew ?_ | with_reducible refine below_drewN ?_ _ | omega | (simp; done) | (simp; omega)))⟩

set_option maxRecDepth 100000 in
set_option maxHeartbeats 4000000 in
theorem tidy_num8  : Calls Tryz.prog 57 #[.agg #[.int .i64 0, .int .u64 8, .string s, .int .i64 t.sec, .int .i64 t.nsec, .int .i64 t.off, .slice A len cap]] w (TidyPost (.mk 0 8 ByteArray.empty ⟨t.sec, 0, 0⟩ .nil) w) := by
  unfold TidyPost
  go_enter Tryz.func57, Tryz.ntmps57
  go_wp2
  all_goals exact bodyPost_ret (v := vVal (.mk 0 8 ByteArray.empty ⟨t.sec, 0, 0⟩ .nil) none 0 0) (by simp [results, Tryz.results57, go_sem, GVal.zero, GTime.zero]; try rfl) rfl ⟨none, 0, 0, rfl, RSP.nil_ _ _ _, (by repeat' (first | with_reducible assumption | with_reducible exact Below.refl _ _ | with_reducible refine Below.setCell ?_ ?_ _ | with_reducible refine Below.alloc ?_ ?_ _ | with_reducible refine Below.drew ?_ | with_reducible refine below_drewN ?_ _ | omega | (simp; done) | (simp; omega)))⟩

set_option maxRecDepth 100000 in
set_option maxHeartbeats 4000000 in
theorem tidy_none0  : Calls Tryz.prog 57 #[.agg #[.int .i64 0, .int .u64 0, .string s, .int .i64 t.sec, .int .i64 t.nsec, .int .i64 t.off, .slice A len cap]] w (TidyPost (.mk 0 0 ByteArray.empty .zero .nil) w) := by
  unfold TidyPost
  go_enter Tryz.func57, Tryz.ntmps57
  go_wp2
  all_goals exact bodyPost_ret (v := vVal (.mk 0 0 ByteArray.empty .zero .nil) none 0 0) (by simp [results, Tryz.results57, go_sem, GVal.zero, GTime.zero]; try rfl) rfl ⟨none, 0, 0, rfl, RSP.nil_ _ _ _, (by repeat' (first | with_reducible assumption | with_reducible exact Below.refl _ _ | with_reducible refine Below.setCell ?_ ?_ _ | with_reducible refine Below.alloc ?_ ?_ _ | with_reducible refine Below.drew ?_ | with_reducible refine below_drewN ?_ _ | omega | (simp; done) | (simp; omega)))⟩

set_option maxRecDepth 100000 in
set_option maxHeartbeats 4000000 in
theorem tidy_none12  : Calls Tryz.prog 57 #[.agg #[.int .i64 0, .int .u64 12, .string s, .int .i64 t.sec, .int .i64 t.nsec, .int .i64 t.off, .slice A len cap]] w (TidyPost (.mk 0 12 ByteArray.empty .zero .nil) w) := by
  unfold TidyPost
  go_enter Tryz.func57, Tryz.ntmps57
  go_wp2
  all_goals exact bodyPost_ret (v := vVal (.mk 0 12 ByteArray.empty .zero .nil) none 0 0) (by simp [results, Tryz.results57, go_sem, GVal.zero, GTime.zero]; try rfl) rfl ⟨none, 0, 0, rfl, RSP.nil_ _ _ _, (by repeat' (first | with_reducible assumption | with_reducible exact Below.refl _ _ | with_reducible refine Below.setCell ?_ ?_ _ | with_reducible refine Below.alloc ?_ ?_ _ | with_reducible refine Below.drew ?_ | with_reducible refine below_drewN ?_ _ | omega | (simp; done) | (simp; omega)))⟩

set_option maxRecDepth 100000 in
set_option maxHeartbeats 4000000 in
theorem tidy_none14  : Calls Tryz.prog 57 #[.agg #[.int .i64 0, .int .u64 14, .string s, .int .i64 t.sec, .int .i64 t.nsec, .int .i64 t.off, .slice A len cap]] w (TidyPost (.mk 0 14 ByteArray.empty .zero .nil) w) := by
  unfold TidyPost
  go_enter Tryz.func57, Tryz.ntmps57
  go_wp2
  all_goals exact bodyPost_ret (v := vVal (.mk 0 14 ByteArray.empty .zero .nil) none 0 0) (by simp [results, Tryz.results57, go_sem, GVal.zero, GTime.zero]; try rfl) rfl ⟨none, 0, 0, rfl, RSP.nil_ _ _ _, (by repeat' (first | with_reducible assumption | with_reducible exact Below.refl _ _ | with_reducible refine Below.setCell ?_ ?_ _ | with_reducible refine Below.alloc ?_ ?_ _ | with_reducible refine Below.drew ?_ | with_reducible refine below_drewN ?_ _ | omega | (simp; done) | (simp; omega)))⟩

set_option maxRecDepth 100000 in
set_option maxHeartbeats 4000000 in
theorem tidy_other (h : ¬ (n = 6 ∨ n = 7 ∨ n = 8 ∨ n = 13 ∨ n = 15 ∨ n = 0 ∨ n = 12 ∨ n = 14)) : Calls Tryz.prog 57 #[.agg #[.int .i64 0, .int .u64 n, .string s, .int .i64 t.sec, .int .i64 t.nsec, .int .i64 t.off, .slice A len cap]] w (TidyPost (.mk 0 n s .zero .nil) w) := by
  unfold TidyPost
  have h6 : ¬ n = 6 := by omega
  have h7 : ¬ n = 7 := by omega
  have h8 : ¬ n = 8 := by omega
  have h13 : ¬ n = 13 := by omega
  have h15 : ¬ n = 15 := by omega
  have h0 : ¬ n = 0 := by omega
  have h12 : ¬ n = 12 := by omega
  have h14 : ¬ n = 14 := by omega
  clear h
  go_enter Tryz.func57, Tryz.ntmps57
  go_wp2
  all_goals exact bodyPost_ret (v := vVal (.mk 0 n s .zero .nil) none 0 0) (by simp [results, Tryz.results57, go_sem, GVal.zero, GTime.zero]; try rfl) rfl ⟨none, 0, 0, rfl, RSP.nil_ _ _ _, (by repeat' (first | with_reducible assumption | with_reducible exact Below.refl _ _ | with_reducible refine Below.setCell ?_ ?_ _ | with_reducible refine Below.alloc ?_ ?_ _ | with_reducible refine Below.drew ?_ | with_reducible refine below_drewN ?_ _ | omega | (simp; done) | (simp; omega)))⟩

set_option maxRecDepth 100000 in
set_option maxHeartbeats 4000000 in
theorem tidy_str  : Calls Tryz.prog 57 #[.agg #[.int .i64 5, .int .u64 n, .string s, .int .i64 t.sec, .int .i64 t.nsec, .int .i64 t.off, .slice A len cap]] w (TidyPost (.mk 5 0 s .zero .nil) w) := by
  unfold TidyPost
  go_enter Tryz.func57, Tryz.ntmps57
  go_wp2
  all_goals exact bodyPost_ret (v := vVal (.mk 5 0 s .zero .nil) none 0 0) (by simp [results, Tryz.results57, go_sem, GVal.zero, GTime.zero]; try rfl) rfl ⟨none, 0, 0, rfl, RSP.nil_ _ _ _, (by repeat' (first | with_reducible assumption | with_reducible exact Below.refl _ _ | with_reducible refine Below.setCell ?_ ?_ _ | with_reducible refine Below.alloc ?_ ?_ _ | with_reducible refine Below.drew ?_ | with_reducible refine below_drewN ?_ _ | omega | (simp; done) | (simp; omega)))⟩

set_option maxRecDepth 100000 in
set_option maxHeartbeats 4000000 in
theorem tidy_time  : Calls Tryz.prog 57 #[.agg #[.int .i64 6, .int .u64 n, .string s, .int .i64 t.sec, .int .i64 t.nsec, .int .i64 t.off, .slice A len cap]] w (TidyPost (.mk 6 0 ByteArray.empty t .nil) w) := by
  unfold TidyPost
  go_enter Tryz.func57, Tryz.ntmps57
  go_wp2
  all_goals exact bodyPost_ret (v := vVal (.mk 6 0 ByteArray.empty t .nil) none 0 0) (by simp [results, Tryz.results57, go_sem, GVal.zero, GTime.zero]; try rfl) rfl ⟨none, 0, 0, rfl, RSP.nil_ _ _ _, (by repeat' (first | with_reducible assumption | with_reducible exact Below.refl _ _ | with_reducible refine Below.setCell ?_ ?_ _ | with_reducible refine Below.alloc ?_ ?_ _ | with_reducible refine Below.drew ?_ | with_reducible refine below_drewN ?_ _ | omega | (simp; done) | (simp; omega)))⟩

set_option maxRecDepth 100000 in
set_option maxHeartbeats 4000000 in
theorem tidy_rest (h : ¬ (k = 0 ∨ k = 5 ∨ k = 6 ∨ k = 8 ∨ k = 9)) : Calls Tryz.prog 57 #[.agg #[.int .i64 k, .int .u64 n, .string s, .int .i64 t.sec, .int .i64 t.nsec, .int .i64 t.off, .slice A len cap]] w (TidyPost (.mk k n ByteArray.empty .zero .nil) w) := by
  unfold TidyPost
  have h0 : ¬ k = 0 := by omega
  have h5 : ¬ k = 5 := by omega
  have h6 : ¬ k = 6 := by omega
  have h8 : ¬ k = 8 := by omega
  have h9 : ¬ k = 9 := by omega
  clear h
  go_enter Tryz.func57, Tryz.ntmps57
  go_wp2
  all_goals exact bodyPost_ret (v := vVal (.mk k n ByteArray.empty .zero .nil) none 0 0) (by simp [results, Tryz.results57, go_sem, GVal.zero, GTime.zero]; try rfl) rfl ⟨none, 0, 0, rfl, RSP.nil_ _ _ _, (by repeat' (first | with_reducible assumption | with_reducible exact Below.refl _ _ | with_reducible refine Below.setCell ?_ ?_ _ | with_reducible refine Below.alloc ?_ ?_ _ | with_reducible refine Below.drew ?_ | with_reducible refine below_drewN ?_ _ | omega | (simp; done) | (simp; omega)))⟩

end

end Go.Proofs.YtihhgnbgejjijaaGreatDoor.Va

/- What package spec makes of a value, so that it is as it can be read again: the other kinds, and lists (spec.VaTidy, VaTidyAll). -/
namespace Go.Proofs.YtihhgnbgejjijaaGreatDoor.Va
set_option linter.unusedVariables false
set_option linter.unusedSimpArgs false
open Go Go.RowKit

section
variable (k n : Int) (s : ByteArray) (t : GTime) (w : World) (A : Option Addr) (len cap : Nat)

set_option maxRecDepth 100000 in
set_option maxHeartbeats 400000 in
theorem tidy_source (l : GAttrs) (hl : RS w l A len) : Calls Tryz.prog 57 #[.agg #[.int .i64 0, .int .u64 13, .string s, .int .i64 t.sec, .int .i64 t.nsec, .int .i64 t.off, .slice A len cap]] w (TidyPost (.mk 0 13 s ⟨t.sec, 0, 0⟩ (.cons l.head GVal.zero .nil)) w) := by
  unfold TidyPost
  have Hl := Lib.hid hl
  clear hl
  go_enter Tryz.func57, Tryz.ntmps57
  go_wp2
  go_region
  all_goals go_wp2_with (go_at_call 105; refine (head_any l _ _ _ _ (Hl.out.keep (keeps_of_below (by repeat' (first | with_reducible assumption | with_reducible exact Below.refl _ _ | with_reducible refine Below.setCell ?_ ?_ _ | with_reducible refine Below.alloc ?_ ?_ _ | with_reducible refine Below.drew ?_ | with_reducible refine below_drewN ?_ _ | omega | (simp; done) | (simp; omega)))))).mono ?_; rintro e w2 ⟨rfl, hb2⟩; have hB2 := keeps_below (show Below w.heap.size w _ from (by repeat' (first | with_reducible assumption | with_reducible exact Below.refl _ _ | with_reducible refine Below.setCell ?_ ?_ _ | with_reducible refine Below.alloc ?_ ?_ _ | with_reducible refine Below.drew ?_ | with_reducible refine below_drewN ?_ _ | omega | (simp; done) | (simp; omega)))) hb2; obtain ⟨hc2, hf2⟩ := bcell hb2; have hs2 := hb2.size; simp at hs2; have hl0 : w.heap.size < w2.heap.size := (by omega); have hl1 : w.heap.size + 1 < w2.heap.size := (by omega); have hl2 : w.heap.size + 1 + 1 < w2.heap.size := (by omega))
  all_goals
    refine bodyPost_ret (v := vVal (.mk 0 13 s ⟨t.sec, 0, 0⟩ (.cons l.head GVal.zero .nil)) (some ⟨w2.heap.size, 0, none⟩) 1 1) ?r rfl ⟨_, 1, 1, rfl, ?s, ?bl⟩
    case r => simp [results, Tryz.results57, go_sem, hc2, hf2, hl0, hl1, hl2, Nat.ne_of_lt hl1]; all_goals (repeat' (first | rfl | apply And.intro))
    case bl => exact (by repeat' (first | with_reducible assumption | with_reducible exact Below.refl _ _ | with_reducible refine Below.setCell ?_ ?_ _ | with_reducible refine Below.alloc ?_ ?_ _ | with_reducible refine Below.drew ?_ | with_reducible refine below_drewN ?_ _ | omega | (simp; done) | (simp; omega)))
    case s =>
      exact ⟨rfl, fun _ => ⟨_, 0, rfl, by simp; omega, ras_single (d := GVal.zero) (by simp [go_sem]) (RSP.nil_ _ _ _)⟩⟩

set_option maxRecDepth 100000 in
set_option maxHeartbeats 400000 in
theorem tidy_both (l : GAttrs) (hl : RS w l A len) : Calls Tryz.prog 57 #[.agg #[.int .i64 0, .int .u64 15, .string s, .int .i64 t.sec, .int .i64 t.nsec, .int .i64 t.off, .slice A len cap]] w (TidyPost (.mk 0 15 s .zero (.cons l.head GVal.zero .nil)) w) := by
  unfold TidyPost
  have Hl := Lib.hid hl
  clear hl
  go_enter Tryz.func57, Tryz.ntmps57
  go_wp2_with (go_at_call 105; refine (head_any l _ _ _ _ (Hl.out.keep (keeps_of_below (by repeat' (first | with_reducible assumption | with_reducible exact Below.refl _ _ | with_reducible refine Below.setCell ?_ ?_ _ | with_reducible refine Below.alloc ?_ ?_ _ | with_reducible refine Below.drew ?_ | with_reducible refine below_drewN ?_ _ | omega | (simp; done) | (simp; omega)))))).mono ?_; rintro e w2 ⟨rfl, hb2⟩; have hB2 := keeps_below (show Below w.heap.size w _ from (by repeat' (first | with_reducible assumption | with_reducible exact Below.refl _ _ | with_reducible refine Below.setCell ?_ ?_ _ | with_reducible refine Below.alloc ?_ ?_ _ | with_reducible refine Below.drew ?_ | with_reducible refine below_drewN ?_ _ | omega | (simp; done) | (simp; omega)))) hb2; obtain ⟨hc2, hf2⟩ := bcell hb2; have hs2 := hb2.size; simp at hs2; have hl0 : w.heap.size < w2.heap.size := (by omega); have hl1 : w.heap.size + 1 < w2.heap.size := (by omega); have hl2 : w.heap.size + 1 + 1 < w2.heap.size := (by omega))
  all_goals
    refine bodyPost_ret (v := vVal (.mk 0 15 s .zero (.cons l.head GVal.zero .nil)) (some ⟨w2.heap.size, 0, none⟩) 1 1) ?r rfl ⟨_, 1, 1, rfl, ?s, ?bl⟩
    case r => simp [results, Tryz.results57, go_sem, hc2, hf2, hl0, hl1, hl2, Nat.ne_of_lt hl1]; all_goals (repeat' (first | rfl | apply And.intro))
    case bl => exact (by repeat' (first | with_reducible assumption | with_reducible exact Below.refl _ _ | with_reducible refine Below.setCell ?_ ?_ _ | with_reducible refine Below.alloc ?_ ?_ _ | with_reducible refine Below.drew ?_ | with_reducible refine below_drewN ?_ _ | omega | (simp; done) | (simp; omega)))
    case s =>
      exact ⟨rfl, fun _ => ⟨_, 0, rfl, by simp; omega, ras_single (d := GVal.zero) (by simp [go_sem]) (RSP.nil_ _ _ _)⟩⟩

set_option maxRecDepth 100000 in
set_option maxHeartbeats 400000 in
theorem tidy_group (l : GAttrs) (hsz : l.size ≤ 700000) (ih : TidyL l) (hl : RS w l A len) : Calls Tryz.prog 57 #[.agg #[.int .i64 8, .int .u64 n, .string s, .int .i64 t.sec, .int .i64 t.nsec, .int .i64 t.off, .slice A len cap]] w (TidyPost (.mk 8 0 ByteArray.empty .zero (vaTidyAll l)) w) := by
  unfold TidyPost
  have Hl := Lib.hid hl
  have Hih := Lib.hid ih
  clear hl ih
  go_enter Tryz.func57, Tryz.ntmps57
  go_wp2_with (go_at_call 16; refine (Hih.out _ _ _ _ hsz (Hl.out.keep (keeps_of_below (by repeat' (first | with_reducible assumption | with_reducible exact Below.refl _ _ | with_reducible refine Below.setCell ?_ ?_ _ | with_reducible refine Below.alloc ?_ ?_ _ | with_reducible refine Below.drew ?_ | with_reducible refine below_drewN ?_ _ | omega | (simp; done) | (simp; omega)))))).mono ?_; rintro e w2 ⟨A2, len2, cap2, rfl, hr2, hb2⟩; have hB2 := keeps_below (show Below w.heap.size w _ from (by repeat' (first | with_reducible assumption | with_reducible exact Below.refl _ _ | with_reducible refine Below.setCell ?_ ?_ _ | with_reducible refine Below.alloc ?_ ?_ _ | with_reducible refine Below.drew ?_ | with_reducible refine below_drewN ?_ _ | omega | (simp; done) | (simp; omega)))) hb2; obtain ⟨hc2, hf2⟩ := bcell hb2; have hs2 := hb2.size; simp at hs2; have hl0 : w.heap.size < w2.heap.size := (by omega); have hl1 : w.heap.size + 1 < w2.heap.size := (by omega); have hl2 : w.heap.size + 1 + 1 < w2.heap.size := (by omega))
  refine bodyPost_ret (v := vVal (.mk 8 0 ByteArray.empty .zero (vaTidyAll l)) A2 len2 cap2) ?r rfl ⟨_, _, _, rfl, ?s, ?bl⟩
  case r => simp [results, Tryz.results57, go_sem, hc2, hf2, hl0, hl1, hl2, Nat.ne_of_lt hl1]; all_goals (repeat' (first | rfl | apply And.intro))
  case bl => exact (by repeat' (first | with_reducible assumption | with_reducible exact Below.refl _ _ | with_reducible refine Below.setCell ?_ ?_ _ | with_reducible refine Below.alloc ?_ ?_ _ | with_reducible refine Below.drew ?_ | with_reducible refine below_drewN ?_ _ | omega | (simp; done) | (simp; omega)))
  case s => exact hr2.turn (by repeat' (first | with_reducible assumption | with_reducible exact KeepsOn.refl _ _ | with_reducible refine KeepsOn.setCell ?_ ?_ _ | with_reducible refine KeepsOn.alloc ?_ _ | with_reducible refine KeepsOn.drew ?_ | (intro b hb; simp at hb ⊢; omega) | (rintro b ⟨_, hb⟩; simp at hb ⊢; omega) | (rintro b ⟨_, hb⟩; omega))) (fun b hb _ => by simp at hb ⊢; omega)

set_option maxRecDepth 100000 in
set_option maxHeartbeats 400000 in
theorem tidy_throws (hs : ¬ s = ByteArray.empty) : Calls Tryz.prog 57 #[.agg #[.int .i64 9, .int .u64 n, .string s, .int .i64 t.sec, .int .i64 t.nsec, .int .i64 t.off, .slice A len cap]] w (TidyPost (.mk 9 n s .zero .nil) w) := by
  unfold TidyPost
  have hsl := toList_ne hs
  go_enter Tryz.func57, Tryz.ntmps57
  go_wp2
  go_region
  all_goals go_wp2
  all_goals first
    | (exfalso; exact hs (by assumption))
    | exact bodyPost_ret (v := vVal (.mk 9 n s .zero .nil) none 0 0) (by simp [results, Tryz.results57, go_sem]; all_goals (repeat' (first | rfl | apply And.intro))) rfl ⟨none, 0, 0, rfl, RSP.nil_ _ _ _, (by repeat' (first | with_reducible assumption | with_reducible exact Below.refl _ _ | with_reducible refine Below.setCell ?_ ?_ _ | with_reducible refine Below.alloc ?_ ?_ _ | with_reducible refine Below.drew ?_ | with_reducible refine below_drewN ?_ _ | omega | (simp; done) | (simp; omega)))⟩

set_option maxRecDepth 100000 in
set_option maxHeartbeats 400000 in
theorem tidy_valuer (l : GAttrs) (hsz : l.size < 700000) (ih : EndV (.mk 9 n ByteArray.empty t l)) (hl : RS w l A len) : Calls Tryz.prog 57 #[.agg #[.int .i64 9, .int .u64 n, .string ByteArray.empty, .int .i64 t.sec, .int .i64 t.nsec, .int .i64 t.off, .slice A len cap]] w (TidyPost (.mk 9 n ByteArray.empty .zero (.cons ByteArray.empty (vaEnd l) .nil)) w) := by
  unfold TidyPost
  have Hl := Lib.hid hl
  have Hih := Lib.hid ih
  clear hl ih
  go_enter Tryz.func57, Tryz.ntmps57
  go_wp2
  go_region
  all_goals
    go_wp2_with (go_at_call 107; refine (Hih.out _ _ _ _ (by simp only [GVal.size]; omega) (Hl.out.keep (keeps_of_below (by repeat' (first | with_reducible assumption | with_reducible exact Below.refl _ _ | with_reducible refine Below.setCell ?_ ?_ _ | with_reducible refine Below.alloc ?_ ?_ _ | with_reducible refine Below.drew ?_ | with_reducible refine below_drewN ?_ _ | omega | (simp; done) | (simp; omega)))))).mono ?_; rintro e w2 ⟨A2, len2, cap2, rfl, hr2, hb2⟩; have hB2 := keeps_below (show Below w.heap.size w _ from (by repeat' (first | with_reducible assumption | with_reducible exact Below.refl _ _ | with_reducible refine Below.setCell ?_ ?_ _ | with_reducible refine Below.alloc ?_ ?_ _ | with_reducible refine Below.drew ?_ | with_reducible refine below_drewN ?_ _ | omega | (simp; done) | (simp; omega)))) hb2; obtain ⟨hc2, hf2⟩ := bcell hb2; have hs2 := hb2.size; simp at hs2; have hl0 : w.heap.size < w2.heap.size := (by omega); have hl1 : w.heap.size + 1 < w2.heap.size := (by omega); have hl2 : w.heap.size + 1 + 1 < w2.heap.size := (by omega))
    refine bodyPost_ret (v := vVal (.mk 9 n ByteArray.empty .zero (.cons ByteArray.empty (vaEnd l) .nil)) (some ⟨w2.heap.size, 0, none⟩) 1 1) ?r rfl ⟨_, 1, 1, rfl, ?s, ?bl⟩
    case r => simp [results, Tryz.results57, go_sem, hc2, hf2, hl0, hl1, hl2, Nat.ne_of_lt hl1]; all_goals (repeat' (first | rfl | apply And.intro))
    case bl => exact (by repeat' (first | with_reducible assumption | with_reducible exact Below.refl _ _ | with_reducible refine Below.setCell ?_ ?_ _ | with_reducible refine Below.alloc ?_ ?_ _ | with_reducible refine Below.drew ?_ | with_reducible refine below_drewN ?_ _ | omega | (simp; done) | (simp; omega)))
    case s => exact ⟨rfl, fun _ => ⟨_, 0, rfl, by simp; omega, ras_single (by simp [go_sem]) (hr2.turn (by repeat' (first | with_reducible assumption | with_reducible exact KeepsOn.refl _ _ | with_reducible refine KeepsOn.setCell ?_ ?_ _ | with_reducible refine KeepsOn.alloc ?_ _ | with_reducible refine KeepsOn.drew ?_ | (intro b hb; simp at hb ⊢; omega) | (rintro b ⟨_, hb⟩; simp at hb ⊢; omega) | (rintro b ⟨_, hb⟩; omega))) (fun b hb _ => by simp at hb ⊢; omega))⟩⟩

end

end Go.Proofs.YtihhgnbgejjijaaGreatDoor.Va

/- What package spec makes of a value, so that it is as it can be read again: all kinds, and lists (spec.VaTidy, VaTidyAll). -/
namespace Go.Proofs.YtihhgnbgejjijaaGreatDoor.Va
set_option linter.unusedVariables false
set_option linter.unusedSimpArgs false
open Go Go.RowKit

theorem tidy_val (d : GVal) (ihL : TidyL d.l) (ihE : EndV d) : TidyV d := by
  obtain ⟨k, n, s, t, l⟩ := d
  intro w A len cap hsz hl
  simp only [l_mk] at hl ihL
  have hsz' : l.size < 700000 := by simp only [GVal.size] at hsz; omega
  simp only [vVal, kind_mk, n_mk, s_mk, t_mk, l_mk]
  show Calls _ _ _ _ (TidyPost (vaTidy (.mk k n s t l)) w)
  by_cases h0 : k = 0
  · subst h0
    by_cases h6 : n = 6
    · subst h6
      have e : vaTidy (.mk 0 6 s t l) = .mk 0 6 ByteArray.empty ⟨t.sec, 0, 0⟩ .nil := by simp [vaTidy]
      rw [e]; exact tidy_num6 _ _ _ _ _ _
    by_cases h7 : n = 7
    · subst h7
      have e : vaTidy (.mk 0 7 s t l) = .mk 0 7 ByteArray.empty ⟨t.sec, 0, 0⟩ .nil := by simp [vaTidy]
      rw [e]; exact tidy_num7 _ _ _ _ _ _
    by_cases h8 : n = 8
    · subst h8
      have e : vaTidy (.mk 0 8 s t l) = .mk 0 8 ByteArray.empty ⟨t.sec, 0, 0⟩ .nil := by simp [vaTidy]
      rw [e]; exact tidy_num8 _ _ _ _ _ _
    by_cases h13 : n = 13
    · subst h13
      have e : vaTidy (.mk 0 13 s t l) = .mk 0 13 s ⟨t.sec, 0, 0⟩ (.cons l.head GVal.zero .nil) := by simp [vaTidy]
      rw [e]; exact tidy_source _ _ _ _ _ _ _ hl
    by_cases h15 : n = 15
    · subst h15
      have e : vaTidy (.mk 0 15 s t l) = .mk 0 15 s .zero (.cons l.head GVal.zero .nil) := by simp [vaTidy]
      rw [e]; exact tidy_both _ _ _ _ _ _ _ hl
    by_cases hz : n = 0
    · subst hz
      have e : vaTidy (.mk 0 0 s t l) = .mk 0 0 ByteArray.empty .zero .nil := by simp [vaTidy]
      rw [e]; exact tidy_none0 _ _ _ _ _ _
    by_cases h12 : n = 12
    · subst h12
      have e : vaTidy (.mk 0 12 s t l) = .mk 0 12 ByteArray.empty .zero .nil := by simp [vaTidy]
      rw [e]; exact tidy_none12 _ _ _ _ _ _
    by_cases h14 : n = 14
    · subst h14
      have e : vaTidy (.mk 0 14 s t l) = .mk 0 14 ByteArray.empty .zero .nil := by simp [vaTidy]
      rw [e]; exact tidy_none14 _ _ _ _ _ _
    have e : vaTidy (.mk 0 n s t l) = .mk 0 n s .zero .nil := by simp [vaTidy, h6, h7, h8, h13, h15, hz, h12, h14]
    rw [e]; exact tidy_other _ _ _ _ _ _ _ (by omega)
  by_cases h5 : k = 5
  · subst h5
    have e : vaTidy (.mk 5 n s t l) = .mk 5 0 s .zero .nil := by simp [vaTidy]
    rw [e]; exact tidy_str _ _ _ _ _ _ _
  by_cases h6 : k = 6
  · subst h6
    have e : vaTidy (.mk 6 n s t l) = .mk 6 0 ByteArray.empty t .nil := by simp [vaTidy]
    rw [e]; exact tidy_time _ _ _ _ _ _ _
  by_cases h8 : k = 8
  · subst h8
    have e : vaTidy (.mk 8 n s t l) = .mk 8 0 ByteArray.empty .zero (vaTidyAll l) := by simp [vaTidy]
    rw [e]; exact tidy_group _ _ _ _ _ _ _ _ (by omega) ihL hl
  by_cases h9 : k = 9
  · subst h9
    by_cases hs : s = ByteArray.empty
    · subst hs
      have e : vaTidy (.mk 9 n ByteArray.empty t l) = .mk 9 n ByteArray.empty .zero (.cons ByteArray.empty (vaEnd l) .nil) := by simp [vaTidy]
      rw [e]; exact tidy_valuer _ _ _ _ _ _ _ hsz' ihE hl
    · have hz : ¬ s.size = 0 := fun h => hs (empty_of_size h)
      have e : vaTidy (.mk 9 n s t l) = .mk 9 n s .zero .nil := by simp [vaTidy, hz]
      rw [e]; exact tidy_throws _ _ _ _ _ _ _ hs
  have e : vaTidy (.mk k n s t l) = .mk k n ByteArray.empty .zero .nil := by simp [vaTidy, h0, h5, h6, h8, h9]
  rw [e]; exact tidy_rest _ _ _ _ _ _ _ _ (by omega)

/-- What spec.VaTidyAll hands back. -/
def ListPost (l : GAttrs) (w : World) (e : Ending) (w' : World) : Prop := ∃ A' len' cap', e = .returned (.slice A' len' cap') ∧ RSP (New w) w' l A' len' ∧ Below w.heap.size w w'

/-- One round. -/
def TidyRnd (w : World) (l : GAttrs) (b o : Nat) (slot3 slot9 : Value) (wr : World) : Prop :=
  ∃ (k : Nat) (rest acc : GAttrs) (n : Nat) (xs : List Value), k + rest.len = l.len ∧ slot9 = .int .i64 k ∧ wr.ownsRow w.heap.size 35 8 slot3 n xs ∧ RXs (Beside w.heap.size slot3) wr acc xs ∧
    vaTidyAll l = acc.append (vaTidyAll rest) ∧ acc.len ≤ k ∧ RAs w rest b (o + k * 8) ∧ rest.size ≤ l.size ∧ Below w.heap.size w wr

theorem tidyAll_nil : vaTidyAll .nil = .nil := by simp only [vaTidyAll]
theorem tidyAll_stay {key : ByteArray} {v : GVal} {r : GAttrs} (h : (vaTidy v).stays = true) : vaTidyAll (.cons key v r) = .cons key (vaTidy v) (vaTidyAll r) := by rw [vaTidyAll, if_pos h]
theorem tidyAll_go {key : ByteArray} {v : GVal} {r : GAttrs} (h : (vaTidy v).stays = false) : vaTidyAll (.cons key v r) = vaTidyAll r := by rw [vaTidyAll, if_neg (by rw [h]; decide)]
theorem stays_iff (d : GVal) : d.stays = (decide (d.kind ≠ 8) || decide (0 < d.l.len)) := by obtain ⟨k, n, s, t, l⟩ := d; rfl

/-- What an attribute more makes of the call's own row. -/
theorem tidy_snoc {w2 w3 wn : World} {base lo : Nat} {u v : Value} {acc : GAttrs} {xs : List Value} {key : ByteArray} {d : GVal} {A : Option Addr} {len cap : Nat} (hx : RXs (Beside base u) w2 acc xs)
    (hd : RSP (fun b => lo ≤ b) w2 d.l A len) (hlo : ∀ g, u.ownBlock = some g → g < lo) (hbase : base ≤ lo) (hk : ∀ P, KeepsOn P w2 wn) (hs : w2.heap.size ≤ wn.heap.size)
    (hg : wn.grownBy w3 u.ownBlock) (hat : v.ownBlock = u.ownBlock ∨ v.ownBlock = some wn.heap.size) :
    RXs (Beside base v) w3 (acc.snoc key d) (xs ++ [.string key, .int .i64 d.kind, .int .u64 d.n, .string d.s, .int .i64 d.t.sec, .int .i64 d.t.nsec, .int .i64 d.t.off, .slice A len cap]) := by
  have hQ : ∀ b, Beside base u b → b < w2.heap.size → Beside base v b := by
    rintro b ⟨h1, h2⟩ h3
    rcases hat with e | e
    · exact ⟨h1, by rw [e]; exact h2⟩
    · refine ⟨h1, ?_⟩
      rw [e]
      intro h
      cases h
      omega
  have hK : KeepsOn (Beside base u) w2 w3 := (hk _).trans (keepsOn_of_grown hg (fun b hb => hb.2))
  have hd' : RSP (Beside base u) w2 d.l A len := hd.turn (KeepsOn.refl _ _) (fun b hb _ => ⟨Nat.le_trans hbase hb, fun e => by have := hlo b e.symm; omega⟩)
  exact RXs.snoc (hd'.turn hK hQ) acc xs (RXs.turn hK hQ acc xs hx)

set_option maxRecDepth 100000 in
set_option maxHeartbeats 400000 in
theorem tidy_all (l : GAttrs) (ih : ∀ d : GVal, d.size ≤ l.size → TidyV d) : TidyL l := by
  intro w A len cap hsz hl
  show Calls _ _ _ _ (ListPost (vaTidyAll l) w)
  obtain ⟨hl0, hl1⟩ := hl
  obtain ⟨i0, hi, hz0, hz1, hz2⟩ := info_parts infoAttr
  by_cases hz : len = 0
  · subst hz
    have : l = .nil := by cases l with | nil => rfl | cons => simp [GAttrs.len] at hl0
    subst this
    clear hl0 hl1
    go_enter Tryz.func16, Tryz.ntmps16
    go_wp2
    go_loopw [3, 9] (fun a c wr => a = .slice none 0 0 ∧ c = .int .i64 0 ∧ wr = w) (fun _ _ _ => 0)
    case atStart => exact ⟨rfl, rfl, rfl⟩
    case round =>
      obtain ⟨rfl, rfl, rfl⟩ := hrel
      go_wp2
      go_ret
      exact ⟨none, 0, 0, rfl, by rw [tidyAll_nil]; exact RSP.nil_ _ _ _, Below.refl _ _⟩
  · obtain ⟨b, o, rfl, hr⟩ := hl1 (by omega)
    clear hl1
    have Hl0 := Lib.hid hl0
    clear hl0
    go_enter Tryz.func16, Tryz.ntmps16
    go_wp2
    go_loopw [3, 9] (fun a c wr => TidyRnd w l b o a c wr) (fun _ c _ => len - (intOf c).toNat)
    case atStart => exact ⟨0, l, .nil, 0, [], by omega, rfl, World.ownsRow_nil _ _ _ _, rfl, rfl, Nat.le_refl _, hr, Nat.le_refl _, Below.refl _ _⟩
    case round =>
      obtain ⟨k, rest, acc, n, xs, hk, rfl, hown, hx, hval, hacc, hrs, hrz, hB⟩ := hrel
      have hk' := Hl0.out
      have HX := Lib.hid hx
      have HO := Lib.hid hown
      have Hval := Lib.hid hval
      have hn : n = acc.len := by have h1 := hown.1; have h2 := RXs.len acc xs hx; omega
      have hll := len_le_size l
      have hsize := hB.size
      cases rest with
      | nil =>
        have hke : ¬ ((k : Int) < (len : Int)) := by simp [GAttrs.len] at hk; omega
        obtain ⟨A', cap', rfl, hrsp⟩ := rsp_of_owns (Q := New w) hown hx (fun b hb => hb.1) (fun b hb => hb)
        have HR := Lib.hid hrsp
        clear hown hx hval hk hk' hrsp hrs hn
        go_wp2
        go_ret
        refine ⟨A', _, cap', rfl, ?_, hB⟩
        rw [Hval.out, tidyAll_nil, append_nil]; exact HR.out
      | cons key v r =>
        have hlt : k < len := by simp only [GAttrs.len] at hk; omega
        have hkk : k + 1 + r.len = l.len := by simp only [GAttrs.len] at hk; omega
        have hvs : v.size + r.size ≤ l.size := by simpa only [GAttrs.size] using hrz
        have Hih := Lib.hid (ih v (by omega))
        unfold RAs at hrs
        obtain ⟨hkey, hv, hr'⟩ := hrs
        have Hr := Lib.hid hr'
        have hv := hv.keep (keeps_of_below hB)
        have hkey := (keeps_of_below hB).cell hkey
        obtain ⟨vk, vn, vs, vt, vl⟩ := v
        unfold RVal at hv
        obtain ⟨c0, c1, c2, c3, c4, c5, A', len', cap', c6, hlen', hA'⟩ := hv
        have HS := Lib.hid (show RS wr vl A' len' from ⟨hlen', hA'⟩)
        have hkn : n + 1 ≤ 700000 := by omega
        clear hlen' hA' hr' hr ih hown hx hval hk hk' hrz
        by_cases hk8 : (vaTidy (.mk vk vn vs vt vl)).kind = 8
        · have HK := Lib.hid hk8
          by_cases hlen : 0 < (vaTidy (.mk vk vn vs vt vl)).l.len
          · have hst : (vaTidy (.mk vk vn vs vt vl)).stays = true := by rw [stays_iff]; simp [hlen]
            have Hend := Lib.hid (Hval.out.trans (congrArg acc.append (tidyAll_stay hst)))
            clear Hval hst
            go_wp2_with (first
              | (go_at_call 57; refine (Hih.out _ _ _ _ (by omega) (HS.out.keep (keeps_of_below (by repeat' (first | with_reducible assumption | with_reducible exact Below.refl _ _ | with_reducible refine Below.setCell ?_ ?_ _ | with_reducible refine Below.alloc ?_ ?_ _ | with_reducible refine Below.drew ?_ | with_reducible refine below_drewN ?_ _ | omega | (simp; done) | (simp; omega)))))).mono ?_; rintro e w2 ⟨A2, len2, cap2, rfl, hr2, hb2⟩; obtain rfl := hr2.1; have HR2 := Lib.hid hr2; clear hr2; have hB2 := keeps_below (show Below w.heap.size w _ from (by repeat' (first | with_reducible assumption | with_reducible exact Below.refl _ _ | with_reducible refine Below.setCell ?_ ?_ _ | with_reducible refine Below.alloc ?_ ?_ _ | with_reducible refine Below.drew ?_ | with_reducible refine below_drewN ?_ _ | omega | (simp; done) | (simp; omega)))) hb2; obtain ⟨hc2, hf2⟩ := bcell hb2; have hs2 := hb2.size; simp at hs2; have hl0 : wr.heap.size < w2.heap.size := (by omega); have HO2 := Lib.hid (own_below (HO.out.alloc _) hb2); have HX2 := Lib.hid (RXs.turn (P := Beside w.heap.size _) (Q := Beside w.heap.size _) (keepsOn_of_below (keeps_below (show Below wr.heap.size wr _ from (by repeat' (first | with_reducible assumption | with_reducible exact Below.refl _ _ | with_reducible refine Below.setCell ?_ ?_ _ | with_reducible refine Below.alloc ?_ ?_ _ | with_reducible refine Below.drew ?_ | with_reducible refine below_drewN ?_ _ | omega | (simp; done) | (simp; omega)))) hb2) _) (fun _ h _ => h) _ _ HX.out))
              | (at_builtin; refine wpList_append_own_at _ rfl (.tmp 25) (.tmp 30) 24 rfl w.heap.size 35 i0 _ 8 96 Tryz.underlying24 hi hz0 hz1 hz2 rfl (by decide) _ n xs rfl ((HO2.out.alloc _).alloc _) ⟨_, 0, none⟩ 1 1 [.string key, .int .i64 8, .int .u64 (vaTidy (.mk vk vn vs vt vl)).n, .string (vaTidy (.mk vk vn vs vt vl)).s, .int .i64 (vaTidy (.mk vk vn vs vt vl)).t.sec, .int .i64 (vaTidy (.mk vk vn vs vt vl)).t.nsec, .int .i64 (vaTidy (.mk vk vn vs vt vl)).t.off, .slice A2 (vaTidy (.mk vk vn vs vt vl)).l.len cap2] rfl rfl (by intro j u hj; exact cells_new _ _ _ _ (by simp) j u hj) (by intro u hu; simp at hu; rcases hu with rfl | rfl | rfl | rfl | rfl | rfl | rfl | rfl; all_goals rfl) (by unfold maxLen; omega) (by omega) (by simp; omega) ?_; intro v3 w3 hown3 hgrow3 hiff3 hat3; have HO3 := Lib.hid hown3; have HG3 := Lib.hid hgrow3; have HA3 := Lib.hid hat3; clear hown3 hgrow3 hiff3 hat3))
            clear hk8
            refine ⟨⟨k + 1, r, acc.snoc key (vaTidy (.mk vk vn vs vt vl)), n + 1, _, hkk, by push_cast; rfl, HO3.out, ?_, ?_, ?_, ?_, by omega, ?_⟩, ?_⟩
            · rw [← HK.out]
              exact tidy_snoc HX2.out HR2.out (fun g hg => by have := (HO.out.lt g hg).2; simp; omega) (by simp; omega) (fun P => ((KeepsOn.refl P _).alloc _).alloc _) (by simp; omega) HG3.out HA3.out
            · rw [snoc_append]; exact Hend.out
            · rw [len_snoc]; omega
            · have := Hr.out
              rwa [show o + (k + 1) * 8 = o + k * 8 + 8 by omega]
            · exact Below.grown (show Below w.heap.size w _ from (by repeat' (first | with_reducible assumption | with_reducible exact Below.refl _ _ | with_reducible refine Below.setCell ?_ ?_ _ | with_reducible refine Below.alloc ?_ ?_ _ | with_reducible refine Below.drew ?_ | with_reducible refine below_drewN ?_ _ | omega | (simp; done) | (simp; omega)))) HG3.out (by simp; omega) (fun g hg => (HO.out.lt g hg).1)
            · simp only [intOf]; omega
          · have hst : (vaTidy (.mk vk vn vs vt vl)).stays = false := by rw [stays_iff]; simp [hlen, hk8]
            have Hend := Lib.hid (Hval.out.trans (congrArg acc.append (tidyAll_go hst)))
            clear Hval hst
            have hlen0 : (vaTidy (.mk vk vn vs vt vl)).l.len = 0 := by omega
            go_wp2_with (go_at_call 57; refine (Hih.out _ _ _ _ (by omega) (HS.out.keep (keeps_of_below (by repeat' (first | with_reducible assumption | with_reducible exact Below.refl _ _ | with_reducible refine Below.setCell ?_ ?_ _ | with_reducible refine Below.alloc ?_ ?_ _ | with_reducible refine Below.drew ?_ | with_reducible refine below_drewN ?_ _ | omega | (simp; done) | (simp; omega)))))).mono ?_; rintro e w2 ⟨A2, len2, cap2, rfl, hr2, hb2⟩; obtain rfl := hr2.1; have HR2 := Lib.hid hr2; clear hr2; have hB2 := keeps_below (show Below w.heap.size w _ from (by repeat' (first | with_reducible assumption | with_reducible exact Below.refl _ _ | with_reducible refine Below.setCell ?_ ?_ _ | with_reducible refine Below.alloc ?_ ?_ _ | with_reducible refine Below.drew ?_ | with_reducible refine below_drewN ?_ _ | omega | (simp; done) | (simp; omega)))) hb2; obtain ⟨hc2, hf2⟩ := bcell hb2; have hs2 := hb2.size; simp at hs2; have hl0 : wr.heap.size < w2.heap.size := (by omega); have HO2 := Lib.hid (own_below (HO.out.alloc _) hb2); have HX2 := Lib.hid (RXs.turn (P := Beside w.heap.size _) (Q := Beside w.heap.size _) (keepsOn_of_below (keeps_below (show Below wr.heap.size wr _ from (by repeat' (first | with_reducible assumption | with_reducible exact Below.refl _ _ | with_reducible refine Below.setCell ?_ ?_ _ | with_reducible refine Below.alloc ?_ ?_ _ | with_reducible refine Below.drew ?_ | with_reducible refine below_drewN ?_ _ | omega | (simp; done) | (simp; omega)))) hb2) _) (fun _ h _ => h) _ _ HX.out))
            refine ⟨⟨k + 1, r, acc, n, xs, hkk, by push_cast; rfl, HO2.out.alloc _, RXs.turn ((KeepsOn.refl _ _).alloc _) (fun b h _ => h) _ _ HX2.out, Hend.out, by omega, ?_, by omega, (by repeat' (first | with_reducible assumption | with_reducible exact Below.refl _ _ | with_reducible refine Below.setCell ?_ ?_ _ | with_reducible refine Below.alloc ?_ ?_ _ | with_reducible refine Below.drew ?_ | with_reducible refine below_drewN ?_ _ | omega | (simp; done) | (simp; omega)))⟩, ?_⟩
            · have := Hr.out
              rwa [show o + (k + 1) * 8 = o + k * 8 + 8 by omega]
            · simp only [intOf]; omega
        · have hst : (vaTidy (.mk vk vn vs vt vl)).stays = true := by rw [stays_iff]; simp [hk8]
          have Hend := Lib.hid (Hval.out.trans (congrArg acc.append (tidyAll_stay hst)))
          clear Hval hst
          go_wp2_with (first
            | (go_at_call 57; refine (Hih.out _ _ _ _ (by omega) (HS.out.keep (keeps_of_below (by repeat' (first | with_reducible assumption | with_reducible exact Below.refl _ _ | with_reducible refine Below.setCell ?_ ?_ _ | with_reducible refine Below.alloc ?_ ?_ _ | with_reducible refine Below.drew ?_ | with_reducible refine below_drewN ?_ _ | omega | (simp; done) | (simp; omega)))))).mono ?_; rintro e w2 ⟨A2, len2, cap2, rfl, hr2, hb2⟩; obtain rfl := hr2.1; have HR2 := Lib.hid hr2; clear hr2; have hB2 := keeps_below (show Below w.heap.size w _ from (by repeat' (first | with_reducible assumption | with_reducible exact Below.refl _ _ | with_reducible refine Below.setCell ?_ ?_ _ | with_reducible refine Below.alloc ?_ ?_ _ | with_reducible refine Below.drew ?_ | with_reducible refine below_drewN ?_ _ | omega | (simp; done) | (simp; omega)))) hb2; obtain ⟨hc2, hf2⟩ := bcell hb2; have hs2 := hb2.size; simp at hs2; have hl0 : wr.heap.size < w2.heap.size := (by omega); have HO2 := Lib.hid (own_below (HO.out.alloc _) hb2); have HX2 := Lib.hid (RXs.turn (P := Beside w.heap.size _) (Q := Beside w.heap.size _) (keepsOn_of_below (keeps_below (show Below wr.heap.size wr _ from (by repeat' (first | with_reducible assumption | with_reducible exact Below.refl _ _ | with_reducible refine Below.setCell ?_ ?_ _ | with_reducible refine Below.alloc ?_ ?_ _ | with_reducible refine Below.drew ?_ | with_reducible refine below_drewN ?_ _ | omega | (simp; done) | (simp; omega)))) hb2) _) (fun _ h _ => h) _ _ HX.out))
            | (at_builtin; refine wpList_append_own_at _ rfl (.tmp 25) (.tmp 30) 24 rfl w.heap.size 35 i0 _ 8 96 Tryz.underlying24 hi hz0 hz1 hz2 rfl (by decide) _ n xs rfl ((HO2.out.alloc _).alloc _) ⟨_, 0, none⟩ 1 1 [.string key, .int .i64 (vaTidy (.mk vk vn vs vt vl)).kind, .int .u64 (vaTidy (.mk vk vn vs vt vl)).n, .string (vaTidy (.mk vk vn vs vt vl)).s, .int .i64 (vaTidy (.mk vk vn vs vt vl)).t.sec, .int .i64 (vaTidy (.mk vk vn vs vt vl)).t.nsec, .int .i64 (vaTidy (.mk vk vn vs vt vl)).t.off, .slice A2 (vaTidy (.mk vk vn vs vt vl)).l.len cap2] rfl rfl (by intro j u hj; exact cells_new _ _ _ _ (by simp) j u hj) (by intro u hu; simp at hu; rcases hu with rfl | rfl | rfl | rfl | rfl | rfl | rfl | rfl; all_goals rfl) (by unfold maxLen; omega) (by omega) (by simp; omega) ?_; intro v3 w3 hown3 hgrow3 hiff3 hat3; have HO3 := Lib.hid hown3; have HG3 := Lib.hid hgrow3; have HA3 := Lib.hid hat3; clear hown3 hgrow3 hiff3 hat3))
          refine ⟨⟨k + 1, r, acc.snoc key (vaTidy (.mk vk vn vs vt vl)), n + 1, _, hkk, by push_cast; rfl, HO3.out, ?_, ?_, ?_, ?_, by omega, ?_⟩, ?_⟩
          · exact tidy_snoc HX2.out HR2.out (fun g hg => by have := (HO.out.lt g hg).2; simp; omega) (by simp; omega) (fun P => ((KeepsOn.refl P _).alloc _).alloc _) (by simp; omega) HG3.out HA3.out
          · rw [snoc_append]; exact Hend.out
          · rw [len_snoc]; omega
          · have := Hr.out
            rwa [show o + (k + 1) * 8 = o + k * 8 + 8 by omega]
          · exact Below.grown (show Below w.heap.size w _ from (by repeat' (first | with_reducible assumption | with_reducible exact Below.refl _ _ | with_reducible refine Below.setCell ?_ ?_ _ | with_reducible refine Below.alloc ?_ ?_ _ | with_reducible refine Below.drew ?_ | with_reducible refine below_drewN ?_ _ | omega | (simp; done) | (simp; omega)))) HG3.out (by simp; omega) (fun g hg => (HO.out.lt g hg).1)
          · simp only [intOf]; omega

theorem tidy_size : ∀ (N : Nat) (d : GVal), d.size ≤ N → TidyV d
  | 0, d, h => absurd h (by have := size_pos d; omega)
  | N + 1, d, h => by
    have hl : d.l.size ≤ N := by obtain ⟨k, n, s, t, l⟩ := d; simp only [GVal.size, l_mk] at h ⊢; omega
    exact tidy_val d (tidy_all d.l (fun v hv => tidy_size N v (by omega))) (end_val d (fun v hv => tidy_size N v (by omega)))

/-- spec.VaTidy. -/
theorem tidy_any (d : GVal) : TidyV d := tidy_size d.size d (Nat.le_refl _)
/-- spec.VaTidyAll. -/
theorem tidyAll_any (l : GAttrs) : TidyL l := tidy_all l (fun d _ => tidy_any d)
/-- spec.VaEnd. -/
theorem end_any (d : GVal) : EndV d := end_val d (fun v _ => tidy_any v)

end Go.Proofs.YtihhgnbgejjijaaGreatDoor.Va

/- What package spec makes of a value, so that it is as it can be read again (spec.VaTidy, VaTidyAll, VaEnd, vaHead): the walks. -/
import Derived.Test.YtdeomgfapffidaaGreatDoorLeft
namespace Go.Proofs.YtdeomgfapffidaaGreatDoor.Va
set_option linter.unusedVariables false
set_option linter.unusedSimpArgs false
open Go Go.RowKit

theorem infoAttr : (Tryz.prog.info? 41).map (fun i => (i.zero, i.size, i.bytes)) = some (some (.agg #[.string ByteArray.empty, .int .i64 0, .int .u64 0, .string ByteArray.empty, .int .i64 0, .int .i64 0, .int .i64 0, .slice none 0 0]), 8, 96) := by kernel_rfl

/-- spec.vaHead. -/
theorem head_any (l : GAttrs) (w : World) (A : Option Addr) (len cap : Nat) (h : RS w l A len) :
    Calls Tryz.prog 41 #[.slice A len cap] w fun e w' => e = .returned (.string l.head) ∧ Below w.heap.size w w' := by
  obtain ⟨h0, h1⟩ := h
  cases l with
  | nil =>
    have : len = 0 := h0
    subst this
    clear h0 h1
    go_enter Tryz.func41, Tryz.ntmps41
    go_wp2
    go_ret
    exact ⟨rfl, Below.refl _ _⟩
  | cons k v r =>
    have hp : 0 < len := by simp only [GAttrs.len] at h0; omega
    obtain ⟨b, o, rfl, hr⟩ := h1 hp
    unfold RAs at hr
    have hk := hr.1
    have hne : ¬ (len : Int) = 0 := by omega
    clear h1 hr h0
    go_enter Tryz.func41, Tryz.ntmps41
    go_wp2
    go_ret
    exact ⟨rfl, Below.refl _ _⟩

/-- What is made is the call's own. -/
abbrev New (w : World) : Nat → Prop := fun b => w.heap.size ≤ b

def TidyV (d : GVal) : Prop := ∀ (w : World) (A : Option Addr) (len cap : Nat), d.size ≤ 700000 → RS w d.l A len →
  Calls Tryz.prog 17 #[vVal d A len cap] w fun e w' => ∃ A' len' cap', e = .returned (vVal (vaTidy d) A' len' cap') ∧ RSP (New w) w' (vaTidy d).l A' len' ∧ Below w.heap.size w w'
def TidyL (l : GAttrs) : Prop := ∀ (w : World) (A : Option Addr) (len cap : Nat), l.size ≤ 700000 → RS w l A len →
  Calls Tryz.prog 26 #[.slice A len cap] w fun e w' => ∃ A' len' cap', e = .returned (.slice A' len' cap') ∧ RSP (New w) w' (vaTidyAll l) A' len' ∧ Below w.heap.size w w'
def EndV (d : GVal) : Prop := ∀ (w : World) (A : Option Addr) (len cap : Nat), d.size ≤ 700000 → RS w d.l A len →
  Calls Tryz.prog 42 #[vVal d A len cap] w fun e w' => ∃ A' len' cap', e = .returned (vVal (vaEnd d.l) A' len' cap') ∧ RSP (New w) w' (vaEnd d.l).l A' len' ∧ Below w.heap.size w w'

set_option maxRecDepth 100000 in
set_option maxHeartbeats 4000000 in
theorem end_val (d : GVal) (ih : ∀ v : GVal, v.size < d.size → TidyV v) : EndV d := by
  obtain ⟨k, n, s, t, l⟩ := d
  intro w A len cap hsz hl
  simp only [vVal, kind_mk, n_mk, s_mk, t_mk, l_mk] at hl ⊢
  obtain ⟨h0, h1⟩ := hl
  cases l with
  | nil =>
    have : len = 0 := h0
    subst this
    have he : vaEnd .nil = GVal.zero := by simp only [vaEnd]
    rw [he]
    clear h0 h1 hsz ih he
    go_enter Tryz.func42, Tryz.ntmps42
    go_wp2
    exact bodyPost_ret (v := vVal GVal.zero none 0 0) (by simp [results, Tryz.results42, go_sem, GVal.zero, GTime.zero]; rfl) rfl ⟨none, 0, 0, rfl, RSP.nil_ _ _ _, (by repeat' (first | with_reducible assumption | with_reducible exact Below.refl _ _ | with_reducible refine Below.setCell ?_ ?_ _ | with_reducible refine Below.alloc ?_ ?_ _ | with_reducible refine Below.drew ?_ | with_reducible refine below_drewN ?_ _ | omega | (simp; done) | (simp; omega)))⟩
  | cons key v r =>
    have hp : 0 < len := by simp only [GAttrs.len] at h0; omega
    have hvs : v.size < 700001 ∧ v.size < (GVal.mk k n s t (.cons key v r)).size := by simp only [GVal.size, GAttrs.size] at hsz ⊢; omega
    obtain ⟨b, o, rfl, hr⟩ := h1 hp
    unfold RAs at hr
    have hv := hr.2.1
    have hne : ¬ (len : Int) = 0 := by omega
    have Hih := Lib.hid (ih v hvs.2)
    have hvs := hvs.1
    have he : vaEnd (.cons key v r) = vaTidy v := by simp only [vaEnd]
    rw [he]
    clear h1 hr h0 hsz ih he
    obtain ⟨vk, vn, vs, vt, vl⟩ := v
    unfold RVal at hv
    obtain ⟨c0, c1, c2, c3, c4, c5, A', len', cap', c6, hlen', hA'⟩ := hv
    have HS := Lib.hid (show RS w vl A' len' from ⟨hlen', hA'⟩)
    clear hlen' hA'
    have hbS : b < w.heap.size := World.block_lt_of_cell? w ⟨b, o + 1, none⟩ c0
    go_enter Tryz.func42, Tryz.ntmps42
    go_wp2_with (go_at_call 17; refine (Hih.out _ _ _ _ (by omega) (HS.out.keep (keeps_of_below (by repeat' (first | with_reducible assumption | with_reducible exact Below.refl _ _ | with_reducible refine Below.setCell ?_ ?_ _ | with_reducible refine Below.alloc ?_ ?_ _ | with_reducible refine Below.drew ?_ | with_reducible refine below_drewN ?_ _ | omega | (simp; done) | (simp; omega)))))).mono ?_; rintro e w2 ⟨A2, len2, cap2, rfl, hr2, hb2⟩; have hB2 := keeps_below (show Below w.heap.size w _ from (by repeat' (first | with_reducible assumption | with_reducible exact Below.refl _ _ | with_reducible refine Below.setCell ?_ ?_ _ | with_reducible refine Below.alloc ?_ ?_ _ | with_reducible refine Below.drew ?_ | with_reducible refine below_drewN ?_ _ | omega | (simp; done) | (simp; omega)))) hb2; obtain ⟨hc2, hf2⟩ := bcell hb2)
    exact bodyPost_ret (v := vVal (vaTidy (.mk vk vn vs vt vl)) A2 len2 cap2) (by simp [results, Tryz.results42, go_sem, hc2, hf2]) rfl ⟨_, _, _, rfl, hr2.turn (by repeat' (first | with_reducible assumption | with_reducible exact KeepsOn.refl _ _ | with_reducible refine KeepsOn.setCell ?_ ?_ _ | with_reducible refine KeepsOn.alloc ?_ _ | with_reducible refine KeepsOn.drew ?_ | (intro b hb; simp at hb ⊢; omega) | (rintro b ⟨_, hb⟩; simp at hb ⊢; omega) | (rintro b ⟨_, hb⟩; omega))) (fun b hb _ => by simp at hb ⊢; omega), (by repeat' (first | with_reducible assumption | with_reducible exact Below.refl _ _ | with_reducible refine Below.setCell ?_ ?_ _ | with_reducible refine Below.alloc ?_ ?_ _ | with_reducible refine Below.drew ?_ | with_reducible refine below_drewN ?_ _ | omega | (simp; done) | (simp; omega)))⟩


/-- What spec.VaTidy hands back. -/
def TidyPost (d : GVal) (w : World) (e : Ending) (w' : World) : Prop := ∃ A' len' cap', e = .returned (vVal d A' len' cap') ∧ RSP (New w) w' d.l A' len' ∧ Below w.heap.size w w'

section
variable (k n : Int) (s : ByteArray) (t : GTime) (w : World) (A : Option Addr) (len cap : Nat)

set_option maxRecDepth 100000 in
set_option maxHeartbeats 4000000 in
theorem tidy_num6  : Calls Tryz.prog 17 #[.agg #[.int .i64 0, .int .u64 6, .string s, .int .i64 t.sec, .int .i64 t.nsec, .int .i64 t.off, .slice A len cap]] w (TidyPost (.mk 0 6 ByteArray.empty ⟨t.sec, 0, 0⟩ .nil) w) := by
  unfold TidyPost
  go_enter Tryz.func17, Tryz.ntmps17
  go_wp2
  all_goals exact bodyPost_ret (v := vVal (.mk 0 6 ByteArray.empty ⟨t.sec, 0, 0⟩ .nil) none 0 0) (by simp [results, Tryz.results17, go_sem, GVal.zero, GTime.zero]; try rfl) rfl ⟨none, 0, 0, rfl, RSP.nil_ _ _ _, (by repeat' (first | with_reducible assumption | with_reducible exact Below.refl _ _ | with_reducible refine Below.setCell ?_ ?_ _ | with_reducible refine Below.alloc ?_ ?_ _ | with_reducible refine Below.drew ?_ | with_reducible refine below_drewN ?_ _ | omega | (simp; done) | (simp; omega)))⟩

set_option maxRecDepth 100000 in
set_option maxHeartbeats 4000000 in
theorem tidy_num7  : Calls Tryz.prog 17 #[.agg #[.int .i64 0, .int .u64 7, .string s, .int .i64 t.sec, .int .i64 t.nsec, .int .i64 t.off, .slice A len cap]] w (TidyPost (.mk 0 7 ByteArray.empty ⟨t.sec, 0, 0⟩ .nil) w) := by
  unfold TidyPost
  go_enter Tryz.func17, Tryz.ntmps17
  go_wp2
  all_goals exact bodyPost_ret (v := vVal (.mk 0 7 ByteArray.empty ⟨t.sec, 0, 0⟩ .nil) none 0 0) (by simp [results, Tryz.results17, go_sem, GVal.zero, GTime.zero]; try rfl) rfl ⟨none, 0, 0, rfl, RSP.nil_ _ _ _, (by repeat' (first | with_reducible assumption | with_reducible exact Below.refl _ _ | with_reducible refine Below.setCell ?_ ?_ _ | with_reducible refine Below.alloc ?_ ?_ _ | with_reducible refine Below.drew ?_ | with_reducible refine below_drewN ?_ _ | omega | (simp; done) | (simp; omega)))⟩

set_option maxRecDepth 100000 in
set_option maxHeartbeats 4000000 in
theorem tidy_num8  : Calls Tryz.prog 17 #[.agg #[.int .i64 0, .int .u64 8, .string s, .int .i64 t.sec, .int .i64 t.nsec, .int .i64 t.off, .slice A len cap]] w (TidyPost (.mk 0 8 ByteArray.empty ⟨t.sec, 0, 0⟩ .nil) w) := by
  unfold TidyPost
  go_enter Tryz.func17, Tryz.ntmps17
  go_wp2
  all_goals exact bodyPost_ret (v := vVal (.mk 0 8 ByteArray.empty ⟨t.sec, 0, 0⟩ .nil) none 0 0) (by simp [results, Tryz.results17, go_sem, GVal.zero, GTime.zero]; try rfl) rfl ⟨none, 0, 0, rfl, RSP.nil_ _ _ _, (by repeat' (first | with_reducible assumption | with_reducible exact Below.refl _ _ | with_reducible refine Below.setCell ?_ ?_ _ | with_reducible refine Below.alloc ?_ ?_ _ | with_reducible refine Below.drew ?_ | with_reducible refine below_drewN ?_ _ | omega | (simp; done) | (simp; omega)))⟩

set_option maxRecDepth 100000 in
set_option maxHeartbeats 4000000 in
theorem tidy_none0  : Calls Tryz.prog 17 #[.agg #[.int .i64 0, .int .u64 0, .string s, .int .i64 t.sec, .int .i64 t.nsec, .int .i64 t.off, .slice A len cap]] w (TidyPost (.mk 0 0 ByteArray.empty .zero .nil) w) := by
  unfold TidyPost
  go_enter Tryz.func17, Tryz.ntmps17
  go_wp2
  all_goals exact bodyPost_ret (v := vVal (.mk 0 0 ByteArray.empty .zero .nil) none 0 0) (by simp [results, Tryz.results17, go_sem, GVal.zero, GTime.zero]; try rfl) rfl ⟨none, 0, 0, rfl, RSP.nil_ _ _ _, (by repeat' (first | with_reducible assumption | with_reducible exact Below.refl _ _ | with_reducible refine Below.setCell ?_ ?_ _ | with_reducible refine Below.alloc ?_ ?_ _ | with_reducible refine Below.drew ?_ | with_reducible refine below_drewN ?_ _ | omega | (simp; done) | (simp; omega)))⟩

set_option maxRecDepth 100000 in
set_option maxHeartbeats 4000000 in
theorem tidy_none12  : Calls Tryz.prog 17 #[.agg #[.int .i64 0, .int .u64 12, .string s, .int .i64 t.sec, .int .i64 t.nsec, .int .i64 t.off, .slice A len cap]] w (TidyPost (.mk 0 12 ByteArray.empty .zero .nil) w) := by
  unfold TidyPost
  go_enter Tryz.func17, Tryz.ntmps17
  go_wp2
  all_goals exact bodyPost_ret (v := vVal (.mk 0 12 ByteArray.empty .zero .nil) none 0 0) (by simp [results, Tryz.results17, go_sem, GVal.zero, GTime.zero]; try rfl) rfl ⟨none, 0, 0, rfl, RSP.nil_ _ _ _, (by repeat' (first | with_reducible assumption | with_reducible exact Below.refl _ _ | with_reducible refine Below.setCell ?_ ?_ _ | with_reducible refine Below.alloc ?_ ?_ _ | with_reducible refine Below.drew ?_ | with_reducible refine below_drewN ?_ _ | omega | (simp; done) | (simp; omega)))⟩

set_option maxRecDepth 100000 in
set_option maxHeartbeats 4000000 in
theorem tidy_none14  : Calls Tryz.prog 17 #[.agg #[.int .i64 0, .int .u64 14, .string s, .int .i64 t.sec, .int .i64 t.nsec, .int .i64 t.off, .slice A len cap]] w (TidyPost (.mk 0 14 ByteArray.empty .zero .nil) w) := by
  unfold TidyPost
  go_enter Tryz.func17, Tryz.ntmps17
  go_wp2
  all_goals exact bodyPost_ret (v := vVal (.mk 0 14 ByteArray.empty .zero .nil) none 0 0) (by simp [results, Tryz.results17, go_sem, GVal.zero, GTime.zero]; try rfl) rfl ⟨none, 0, 0, rfl, RSP.nil_ _ _ _, (by repeat' (first | with_reducible assumption | with_reducible exact Below.refl _ _ | with_reducible refine Below.setCell ?_ ?_ _ | with_reducible refine Below.alloc ?_ ?_ _ | with_reducible refine Below.drew ?_ | with_reducible refine below_drewN ?_ _ | omega | (simp; done) | (simp; omega)))⟩

set_option maxRecDepth 100000 in
set_option maxHeartbeats 4000000 in
theorem tidy_other (h : ¬ (n = 6 ∨ n = 7 ∨ n = 8 ∨ n = 13 ∨ n = 15 ∨ n = 0 ∨ n = 12 ∨ n = 14)) : Calls Tryz.prog 17 #[.agg #[.int .i64 0, .int .u64 n, .string s, .int .i64 t.sec, .int .i64 t.nsec, .int .i64 t.off, .slice A len cap]] w (TidyPost (.mk 0 n s .zero .nil) w) := by
  unfold TidyPost
  have h6 : ¬ n = 6 := by omega
  have h7 : ¬ n = 7 := by omega
  have h8 : ¬ n = 8 := by omega
  have h13 : ¬ n = 13 := by omega
  have h15 : ¬ n = 15 := by omega
  have h0 : ¬ n = 0 := by omega
  have h12 : ¬ n = 12 := by omega
  have h14 : ¬ n = 14 := by omega
  clear h
  go_enter Tryz.func17, Tryz.ntmps17
  go_wp2
  all_goals exact bodyPost_ret (v := vVal (.mk 0 n s .zero .nil) none 0 0) (by simp [results, Tryz.results17, go_sem, GVal.zero, GTime.zero]; try rfl) rfl ⟨none, 0, 0, rfl, RSP.nil_ _ _ _, (by repeat' (first | with_reducible assumption | with_reducible exact Below.refl _ _ | with_reducible refine Below.setCell ?_ ?_ _ | with_reducible refine Below.alloc ?_ ?_ _ | with_reducible refine Below.drew ?_ | with_reducible refine below_drewN ?_ _ | omega | (simp; done) | (simp; omega)))⟩

set_option maxRecDepth 100000 in
set_option maxHeartbeats 4000000 in
theorem tidy_str  : Calls Tryz.prog 17 #[.agg #[.int .i64 5, .int .u64 n, .string s, .int .i64 t.sec, .int .i64 t.nsec, .int .i64 t.off, .slice A len cap]] w (TidyPost (.mk 5 0 s .zero .nil) w) := by
  unfold TidyPost
  go_enter Tryz.func17, Tryz.ntmps17
  go_wp2
  all_goals exact bodyPost_ret (v := vVal (.mk 5 0 s .zero .nil) none 0 0) (by simp [results, Tryz.results17, go_sem, GVal.zero, GTime.zero]; try rfl) rfl ⟨none, 0, 0, rfl, RSP.nil_ _ _ _, (by repeat' (first | with_reducible assumption | with_reducible exact Below.refl _ _ | with_reducible refine Below.setCell ?_ ?_ _ | with_reducible refine Below.alloc ?_ ?_ _ | with_reducible refine Below.drew ?_ | with_reducible refine below_drewN ?_ _ | omega | (simp; done) | (simp; omega)))⟩

set_option maxRecDepth 100000 in
set_option maxHeartbeats 4000000 in
theorem tidy_time  : Calls Tryz.prog 17 #[.agg #[.int .i64 6, .int .u64 n, .string s, .int .i64 t.sec, .int .i64 t.nsec, .int .i64 t.off, .slice A len cap]] w (TidyPost (.mk 6 0 ByteArray.empty t .nil) w) := by
  unfold TidyPost
  go_enter Tryz.func17, Tryz.ntmps17
  go_wp2
  all_goals exact bodyPost_ret (v := vVal (.mk 6 0 ByteArray.empty t .nil) none 0 0) (by simp [results, Tryz.results17, go_sem, GVal.zero, GTime.zero]; try rfl) rfl ⟨none, 0, 0, rfl, RSP.nil_ _ _ _, (by repeat' (first | with_reducible assumption | with_reducible exact Below.refl _ _ | with_reducible refine Below.setCell ?_ ?_ _ | with_reducible refine Below.alloc ?_ ?_ _ | with_reducible refine Below.drew ?_ | with_reducible refine below_drewN ?_ _ | omega | (simp; done) | (simp; omega)))⟩

set_option maxRecDepth 100000 in
set_option maxHeartbeats 4000000 in
theorem tidy_rest (h : ¬ (k = 0 ∨ k = 5 ∨ k = 6 ∨ k = 8 ∨ k = 9)) : Calls Tryz.prog 17 #[.agg #[.int .i64 k, .int .u64 n, .string s, .int .i64 t.sec, .int .i64 t.nsec, .int .i64 t.off, .slice A len cap]] w (TidyPost (.mk k n ByteArray.empty .zero .nil) w) := by
  unfold TidyPost
  have h0 : ¬ k = 0 := by omega
  have h5 : ¬ k = 5 := by omega
  have h6 : ¬ k = 6 := by omega
  have h8 : ¬ k = 8 := by omega
  have h9 : ¬ k = 9 := by omega
  clear h
  go_enter Tryz.func17, Tryz.ntmps17
  go_wp2
  all_goals exact bodyPost_ret (v := vVal (.mk k n ByteArray.empty .zero .nil) none 0 0) (by simp [results, Tryz.results17, go_sem, GVal.zero, GTime.zero]; try rfl) rfl ⟨none, 0, 0, rfl, RSP.nil_ _ _ _, (by repeat' (first | with_reducible assumption | with_reducible exact Below.refl _ _ | with_reducible refine Below.setCell ?_ ?_ _ | with_reducible refine Below.alloc ?_ ?_ _ | with_reducible refine Below.drew ?_ | with_reducible refine below_drewN ?_ _ | omega | (simp; done) | (simp; omega)))⟩

end

end Go.Proofs.YtdeomgfapffidaaGreatDoor.Va

/- slog.Any, slog.String, argsToAttr: the walks. -/
import Derived.Test.YtihhgnbgejjijaaGreatDoorArgsOf
import Derived.Test.YtihhgnbgejjijaaGreatDoorIAgain
import Derived.Deep.RegionHeld3
import Derived.Test.YtihhgnbgejjijaaGreatDoorIGroups
import Derived.Deep.AppendLies
namespace Go.Proofs.YtihhgnbgejjijaaGreatDoor.Va
set_option linter.unusedVariables false
set_option linter.unusedSimpArgs false
open Go Go.RowKit

/-- AnyValue, of an argument that is no attribute. -/
theorem anyValue_arg {P : Nat → Prop} (a : GArg) (w : World) (z : Value) (h : RArg P w a z) (h0 : a.what ≠ 0) (hw : a.val.wf) (hs : a.val.size ≤ 65536) (hP : ∀ b, w.heap.size ≤ b → P b) :
    Calls Tryz.prog 100 #[z] w fun e w' => ∃ x y, e = .returned (.agg #[x, y]) ∧ RSV P w' (valueOf none a.val) x y ∧ Below w.heap.size w w' := by
  rcases h with ⟨e, _⟩ | ⟨_, h⟩ | ⟨_, x, y, rfl, h⟩
  · exact absurd e h0
  · have := anyValue_raw (valueOf none a.val) w z h (backable_value none a.val hw hs) hP
    rw [again_value] at this
    exact this
  · obtain ⟨i, rfl, hy⟩ := rsv_shape h
    exact (mk_value i y hy w).mono fun e w' q => ⟨_, _, q.1, h.turn ((keeps_of_below q.2).on P) (fun _ x _ => x), q.2⟩

set_option maxRecDepth 100000 in
set_option maxHeartbeats 1000000 in
/-- slog.Any. -/
theorem sAny_arg {P : Nat → Prop} (key : ByteArray) (a : GArg) (w : World) (z : Value) (h : RArg P w a z) (h0 : a.what ≠ 0) (hw : a.val.wf) (hs : a.val.size ≤ 65536) (hP : ∀ b, w.heap.size ≤ b → P b) :
    Calls Tryz.prog 159 #[.string key, z] w fun e w' => ∃ x y, e = .returned (.agg #[.string key, x, y]) ∧ RSV P w' (valueOf none a.val) x y ∧ Below w.heap.size w w' := by
  have HV := Lib.hid (fun P wx h hP => anyValue_arg (P := P) a wx z h h0 hw hs hP)
  have Hz := Lib.hid (h.turn (Q := fun b => (P b ∧ b < w.heap.size) ∨ w.heap.size + 1 ≤ b) (KeepsOn.refl _ _) (fun b h h' => .inl ⟨h, h'⟩))
  have HP := Lib.hid hP
  have hz := h.shape
  clear h hP h0 hw hs
  rcases hz with rfl | ⟨t, u, rfl⟩
  all_goals
    go_enter Tryz.func159, Tryz.ntmps159
    go_wp2_with (go_at_call 100; refine (HV.out (fun b => (P b ∧ b < w.heap.size) ∨ w.heap.size + 1 ≤ b) _ (Hz.out.turn ((keeps_of_below (by repeat' (first | with_reducible assumption | with_reducible exact Below.refl _ _ | with_reducible refine Below.setCell ?_ ?_ _ | with_reducible refine Below.alloc ?_ ?_ _ | with_reducible refine Below.drew ?_ | with_reducible refine below_drewN ?_ _ | omega | (simp; done) | (simp; omega)))).on _) (fun _ x _ => x)) (fun b hb => .inr (by simp at hb; omega))).mono ?_; rintro e w3 ⟨x3, y3, rfl, hr3, hb3⟩; have hsh := rsv_shape hr3; have HR3 := Lib.hid hr3; clear hr3; have hB3 := keeps_below (show Below w.heap.size w _ from (by repeat' (first | with_reducible assumption | with_reducible exact Below.refl _ _ | with_reducible refine Below.setCell ?_ ?_ _ | with_reducible refine Below.alloc ?_ ?_ _ | with_reducible refine Below.drew ?_ | with_reducible refine below_drewN ?_ _ | omega | (simp; done) | (simp; omega)))) hb3; obtain ⟨hc3, hf3⟩ := bcell hb3; have hs3 := hb3.size; (try simp at hs3); have hl3 : w.heap.size < w3.heap.size := (by omega); obtain ⟨i3, rfl, hy3⟩ := hsh; rcases hy3 with rfl | ⟨t3, u3, rfl⟩)
    · exact bodyPost_ret (v := .agg #[.string key, .int .u64 i3, .nilIface]) (by simp [results, Tryz.results159, go_sem, hc3, hf3, hl3]) rfl ⟨_, _, rfl, HR3.out.turn (by repeat' (first | with_reducible assumption | with_reducible exact KeepsOn.refl _ _ | with_reducible refine KeepsOn.setCell ?_ ?_ _ | with_reducible refine KeepsOn.alloc ?_ _ | with_reducible refine KeepsOn.drew ?_ | (intro b hb; simp at hb ⊢; omega) | (rintro b ⟨_, hb⟩; simp at hb ⊢; omega) | (rintro b ⟨_, hb⟩; omega))) (fun b hb _ => by rcases hb with h | h; exact h.1; exact HP.out b (by omega)), (by repeat' (first | with_reducible assumption | with_reducible exact Below.refl _ _ | with_reducible refine Below.setCell ?_ ?_ _ | with_reducible refine Below.alloc ?_ ?_ _ | with_reducible refine Below.drew ?_ | with_reducible refine below_drewN ?_ _ | omega | (simp; done) | (simp; omega)))⟩
    · exact bodyPost_ret (v := .agg #[.string key, .int .u64 i3, .iface t3 u3]) (by simp [results, Tryz.results159, go_sem, hc3, hf3, hl3]) rfl ⟨_, _, rfl, HR3.out.turn (by repeat' (first | with_reducible assumption | with_reducible exact KeepsOn.refl _ _ | with_reducible refine KeepsOn.setCell ?_ ?_ _ | with_reducible refine KeepsOn.alloc ?_ _ | with_reducible refine KeepsOn.drew ?_ | (intro b hb; simp at hb ⊢; omega) | (rintro b ⟨_, hb⟩; simp at hb ⊢; omega) | (rintro b ⟨_, hb⟩; omega))) (fun b hb _ => by rcases hb with h | h; exact h.1; exact HP.out b (by omega)), (by repeat' (first | with_reducible assumption | with_reducible exact Below.refl _ _ | with_reducible refine Below.setCell ?_ ?_ _ | with_reducible refine Below.alloc ?_ ?_ _ | with_reducible refine Below.drew ?_ | with_reducible refine below_drewN ?_ _ | omega | (simp; done) | (simp; omega)))⟩

set_option maxRecDepth 100000 in
set_option maxHeartbeats 1000000 in
/-- slog.String. -/
theorem sString_any (key s : ByteArray) (hs : s.size ≤ 140737488355328) (w : World) :
    Calls Tryz.prog 114 #[.string key, .string s] w fun e w' => e = .returned (.agg #[.string key, .int .u64 s.size, .iface 230 (.string s)]) ∧ Below w.heap.size w w' := by
  go_enter Tryz.func114, Tryz.ntmps114
  go_wp2_with (go_at_call 128; refine (c_str s hs _).mono ?_; rintro e w3 ⟨rfl, hb3⟩; have hB3 := keeps_below (show Below w.heap.size w _ from (by repeat' (first | with_reducible assumption | with_reducible exact Below.refl _ _ | with_reducible refine Below.setCell ?_ ?_ _ | with_reducible refine Below.alloc ?_ ?_ _ | with_reducible refine Below.drew ?_ | with_reducible refine below_drewN ?_ _ | omega | (simp; done) | (simp; omega)))) hb3; obtain ⟨hc3, hf3⟩ := bcell hb3; have hs3 := hb3.size; (try simp at hs3); have hl3 : w.heap.size < w3.heap.size := (by omega))
  exact bodyPost_ret (v := .agg #[.string key, .int .u64 s.size, .iface 230 (.string s)]) (by simp [results, Tryz.results114, go_sem, hc3, hf3, hl3]) rfl ⟨rfl, (by repeat' (first | with_reducible assumption | with_reducible exact Below.refl _ _ | with_reducible refine Below.setCell ?_ ?_ _ | with_reducible refine Below.alloc ?_ ?_ _ | with_reducible refine Below.drew ?_ | with_reducible refine below_drewN ?_ _ | omega | (simp; done) | (simp; omega)))⟩

/-- Is a Value's second cell nil? -/
def voidV : SVal → Bool
  | .any .nil => true
  | _ => false
theorem rsv_void {P : Nat → Prop} {w : World} {d : SVal} {x y : Value} (h : RSV P w d x y) : match voidV d with | true => y = .nilIface | false => ∃ t u, y = .iface t u := by
  cases d with
  | num k n => unfold RSV at h; exact ⟨_, _, h.2.1⟩
  | str s => unfold RSV at h; exact ⟨_, _, h.2⟩
  | time t => unfold RSV at h; exact ⟨_, _, h.2⟩
  | group l => unfold RSV at h; obtain ⟨A, len, cap, _, e, _⟩ := h; exact ⟨_, _, e⟩
  | valuer n v c => unfold RSV at h; obtain ⟨vx, vy, _, e, _⟩ := h; exact ⟨_, _, e⟩
  | throws s c => unfold RSV at h; exact ⟨_, _, h.2⟩
  | any g =>
    unfold RSV at h
    cases g with
    | nil => exact h.2
    | bytes s => obtain ⟨_, A, len, cap, e, _⟩ := h; exact ⟨_, _, e⟩
    | source f s n => obtain ⟨_, b, e, _⟩ := h; exact ⟨_, _, e⟩
    | made g => exact (h.2 : False).elim
    | _ => exact ⟨_, _, h.2⟩

/-- A slice's place behind its first k elements. -/
def cut (b o c k : Nat) : Option Addr := if c = 0 then some ⟨b, o, none⟩ else some ⟨b, o + k, none⟩

section
variable (w : World) (b o m c : Nat)

set_option maxRecDepth 100000 in
set_option maxHeartbeats 1000000 in
theorem to_attr (hmc : m ≤ c) (key : ByteArray) (i : Int) (y : Value) (hy : y = .nilIface ∨ ∃ t u, y = .iface t u) (hz : w.cell? ⟨b, o, none⟩ = some (.iface 111 (.agg #[.string key, .int .u64 i, y]))) :
    Calls Tryz.prog 109 #[.slice (some ⟨b, o, none⟩) (m + 1) (c + 1)] w fun e w' => e = .returned (.tuple #[.agg #[.string key, .int .u64 i, y], .slice (cut b o c 1) m c]) ∧ Below w.heap.size w w' := by
  have hbb : b < w.heap.size := World.block_lt_of_cell? w _ hz
  have hbb1 : b < w.heap.size + 1 := by omega
  have hbn : b ≠ w.heap.size := by omega
  have hbn2 : ¬ w.heap.size = b := by omega
  have hne := World.new_ne w ⟨b, o, none⟩ hz
  have hlr : (0 : Int) < ((m + 1 : Nat) : Int) := by omega
  have hlr2 : (0 : Int) < (m : Int) + 1 := by omega
  have hlr3 : (1 : Int) ≤ (m : Int) + 1 := by omega
  rcases hy with rfl | ⟨t, u, rfl⟩
  · by_cases hc0 : c = 0
    · have hm0 : m = 0 := by omega
      subst hc0 hm0
      go_enter Tryz.func109, Tryz.ntmps109
      go_wp2_with fail
      go_region
      go_wp2
      refine bodyPost_ret (v := .tuple #[.agg #[.string key, .int .u64 i, .nilIface], .slice (cut b o 0 1) 0 0]) ?_ rfl ⟨rfl, (by repeat' (first | with_reducible assumption | with_reducible exact Below.refl _ _ | with_reducible refine Below.setCell ?_ ?_ _ | with_reducible refine Below.alloc ?_ ?_ _ | with_reducible refine Below.drew ?_ | with_reducible refine below_drewN ?_ _ | omega | (simp; done) | (simp; omega)))⟩
      simp [results, Tryz.results109, go_sem, cut]; (try rfl)
    · go_enter Tryz.func109, Tryz.ntmps109
      go_wp2_with fail
      go_region
      go_wp2
      refine bodyPost_ret (v := .tuple #[.agg #[.string key, .int .u64 i, .nilIface], .slice (cut b o c 1) m c]) ?_ rfl ⟨rfl, (by repeat' (first | with_reducible assumption | with_reducible exact Below.refl _ _ | with_reducible refine Below.setCell ?_ ?_ _ | with_reducible refine Below.alloc ?_ ?_ _ | with_reducible refine Below.drew ?_ | with_reducible refine below_drewN ?_ _ | omega | (simp; done) | (simp; omega)))⟩
      simp [results, Tryz.results109, go_sem, cut, hc0]; (try rfl)
  · by_cases hc0 : c = 0
    · have hm0 : m = 0 := by omega
      subst hc0 hm0
      go_enter Tryz.func109, Tryz.ntmps109
      go_wp2_with fail
      go_region
      go_wp2
      refine bodyPost_ret (v := .tuple #[.agg #[.string key, .int .u64 i, .iface t u], .slice (cut b o 0 1) 0 0]) ?_ rfl ⟨rfl, (by repeat' (first | with_reducible assumption | with_reducible exact Below.refl _ _ | with_reducible refine Below.setCell ?_ ?_ _ | with_reducible refine Below.alloc ?_ ?_ _ | with_reducible refine Below.drew ?_ | with_reducible refine below_drewN ?_ _ | omega | (simp; done) | (simp; omega)))⟩
      simp [results, Tryz.results109, go_sem, cut]; (try rfl)
    · go_enter Tryz.func109, Tryz.ntmps109
      go_wp2_with fail
      go_region
      go_wp2
      refine bodyPost_ret (v := .tuple #[.agg #[.string key, .int .u64 i, .iface t u], .slice (cut b o c 1) m c]) ?_ rfl ⟨rfl, (by repeat' (first | with_reducible assumption | with_reducible exact Below.refl _ _ | with_reducible refine Below.setCell ?_ ?_ _ | with_reducible refine Below.alloc ?_ ?_ _ | with_reducible refine Below.drew ?_ | with_reducible refine below_drewN ?_ _ | omega | (simp; done) | (simp; omega)))⟩
      simp [results, Tryz.results109, go_sem, cut, hc0]; (try rfl)

set_option maxRecDepth 100000 in
set_option maxHeartbeats 1000000 in
theorem to_last (s : ByteArray) (hs : s.size ≤ 140737488355328) (hz : w.cell? ⟨b, o, none⟩ = some (.iface 9 (.string s))) :
    Calls Tryz.prog 109 #[.slice (some ⟨b, o, none⟩) 1 (c + 1)] w fun e w' => e = .returned (.tuple #[.agg #[.string badKey, .int .u64 s.size, .iface 230 (.string s)], .slice none 0 0]) ∧ Below w.heap.size w w' := by
  have hbb : b < w.heap.size := World.block_lt_of_cell? w _ hz
  have hbb1 : b < w.heap.size + 1 := by omega
  have hbn : b ≠ w.heap.size := by omega
  have hbn2 : ¬ w.heap.size = b := by omega
  have hne := World.new_ne w ⟨b, o, none⟩ hz
  have hc1 : (1 : Int) ≤ (c : Int) + 1 := by omega
  go_enter Tryz.func109, Tryz.ntmps109
  go_wp2_with (go_at_call 114; refine (sString_any _ s hs _).mono ?_; rintro e w3 ⟨rfl, hb3⟩; have hB3 := keeps_below (show Below w.heap.size w _ from (by repeat' (first | with_reducible assumption | with_reducible exact Below.refl _ _ | with_reducible refine Below.setCell ?_ ?_ _ | with_reducible refine Below.alloc ?_ ?_ _ | with_reducible refine Below.drew ?_ | with_reducible refine below_drewN ?_ _ | omega | (simp; done) | (simp; omega)))) hb3; obtain ⟨hc3, hf3⟩ := bcell hb3; have hs3 := hb3.size; (try simp at hs3); have hl3 : w.heap.size < w3.heap.size := (by omega))
  refine bodyPost_ret (v := .tuple #[.agg #[.string badKey, .int .u64 s.size, .iface 230 (.string s)], .slice none 0 0]) ?_ rfl ⟨rfl, (by repeat' (first | with_reducible assumption | with_reducible exact Below.refl _ _ | with_reducible refine Below.setCell ?_ ?_ _ | with_reducible refine Below.alloc ?_ ?_ _ | with_reducible refine Below.drew ?_ | with_reducible refine below_drewN ?_ _ | omega | (simp; done) | (simp; omega)))⟩
  simp [results, Tryz.results109, go_sem, hc3, hf3, hl3, badKey]; (try rfl)

/-- How argsToAttr ends. -/
def ToPost (P : Nat → Prop) (key : ByteArray) (d : SVal) (A : Option Addr) (len cap : Nat) (w : World) (e : Ending) (w' : World) : Prop :=
  ∃ x y, e = .returned (.tuple #[.agg #[.string key, x, y], .slice A len cap]) ∧ RSV P w' d x y ∧ Below w.heap.size w w'

set_option maxRecDepth 100000 in
set_option maxHeartbeats 1000000 in
theorem to_bad {P : Nat → Prop} (a : GArg) (hmc : m ≤ c) (z : Value) (h : RArg P w a z) (h0 : a.what ≠ 0) (hw : a.val.wf) (hs : a.val.size ≤ 65536) (hP : ∀ b, w.heap.size ≤ b → P b)
    (hzt : z = .nilIface ∨ ∃ t u, z = .iface t u ∧ ¬ t = 9 ∧ ¬ t = 111) (hz : w.cell? ⟨b, o, none⟩ = some z) :
    Calls Tryz.prog 109 #[.slice (some ⟨b, o, none⟩) (m + 1) (c + 1)] w (ToPost P badKey (valueOf none a.val) (cut b o c 1) m c w) := by
  unfold ToPost
  have HV := Lib.hid (fun P wx h hP => sAny_arg (P := P) badKey a wx z h h0 hw hs hP)
  have Hz := Lib.hid (h.turn (Q := fun b => (P b ∧ b < w.heap.size) ∨ w.heap.size + 1 ≤ b) (KeepsOn.refl _ _) (fun b h h' => .inl ⟨h, h'⟩))
  have HP := Lib.hid hP
  have hbb : b < w.heap.size := World.block_lt_of_cell? w _ hz
  have hbb1 : b < w.heap.size + 1 := by omega
  have hbn : b ≠ w.heap.size := by omega
  have hbn2 : ¬ w.heap.size = b := by omega
  have hne := World.new_ne w ⟨b, o, none⟩ hz
  have hlr : (0 : Int) < ((m + 1 : Nat) : Int) := by omega
  have hlr2 : (0 : Int) < (m : Int) + 1 := by omega
  have hlr3 : (1 : Int) ≤ (m : Int) + 1 := by omega
  clear h hP h0 hw hs
  cases hv : voidV (valueOf none a.val) with
  | true =>
    have Hv := Lib.hid hv
    clear hv
    rcases hzt with rfl | ⟨t, u, rfl, ht1, ht2⟩
    all_goals
      by_cases hc0 : c = 0
      · have hm0 : m = 0 := by omega
        subst hc0 hm0
        go_enter Tryz.func109, Tryz.ntmps109
        go_wp2_with fail
        go_region_held3 (fun wx => wx.cell? ⟨b, o, none⟩ = w.cell? ⟨b, o, none⟩) (go_keep) (first | (go_at_call 159; refine (HV.out (fun b => (P b ∧ b < w.heap.size) ∨ w.heap.size + 1 ≤ b) _ (Hz.out.turn ((keeps_of_below (show Below w.heap.size w _ from (by repeat' (first | with_reducible assumption | with_reducible exact Below.refl _ _ | with_reducible refine Below.setCell ?_ ?_ _ | with_reducible refine Below.alloc ?_ ?_ _ | with_reducible refine Below.drew ?_ | with_reducible refine below_drewN ?_ _ | omega | (simp; done) | (simp; omega))))).on _) (fun _ x _ => x)) (fun b hb => .inr (by simp at hb; omega))).mono ?_; rintro e w3 ⟨x3, y3, rfl, hr3, hb3⟩; have hq := rsv_void hr3; rw [Hv.out] at hq; obtain ⟨i3, rfl⟩ := rsv_num hr3; have HR3 := Lib.hid hr3; clear hr3; obtain rfl := hq; have hB3 := keeps_below (show Below w.heap.size w _ from (by repeat' (first | with_reducible assumption | with_reducible exact Below.refl _ _ | with_reducible refine Below.setCell ?_ ?_ _ | with_reducible refine Below.alloc ?_ ?_ _ | with_reducible refine Below.drew ?_ | with_reducible refine below_drewN ?_ _ | omega | (simp; done) | (simp; omega)))) hb3; obtain ⟨hc3, hf3⟩ := bcell hb3; have hs3 := hb3.size; (try simp at hs3); have hl3 : w.heap.size < w3.heap.size := (by omega)))
        go_wp2
        refine bodyPost_ret (v := .tuple #[.agg #[.string badKey, .int .u64 i3, .nilIface], .slice (cut b o 0 1) 0 0]) ?_ rfl ⟨_, _, rfl, HR3.out.turn (by repeat' (first | with_reducible assumption | with_reducible exact KeepsOn.refl _ _ | with_reducible refine KeepsOn.setCell ?_ ?_ _ | with_reducible refine KeepsOn.alloc ?_ _ | with_reducible refine KeepsOn.drew ?_ | (intro b hb; simp at hb ⊢; omega) | (rintro b ⟨_, hb⟩; simp at hb ⊢; omega) | (rintro b ⟨_, hb⟩; omega))) (fun b hb _ => by rcases hb with h | h; exact h.1; exact HP.out b (by omega)), (by repeat' (first | with_reducible assumption | with_reducible exact Below.refl _ _ | with_reducible refine Below.setCell ?_ ?_ _ | with_reducible refine Below.alloc ?_ ?_ _ | with_reducible refine Below.drew ?_ | with_reducible refine below_drewN ?_ _ | omega | (simp; done) | (simp; omega)))⟩
        simp [results, Tryz.results109, go_sem, hc3, hf3, hl3, badKey, cut, *]; (try rfl)
      · go_enter Tryz.func109, Tryz.ntmps109
        go_wp2_with fail
        go_region_held3 (fun wx => wx.cell? ⟨b, o, none⟩ = w.cell? ⟨b, o, none⟩) (go_keep) (first | (go_at_call 159; refine (HV.out (fun b => (P b ∧ b < w.heap.size) ∨ w.heap.size + 1 ≤ b) _ (Hz.out.turn ((keeps_of_below (show Below w.heap.size w _ from (by repeat' (first | with_reducible assumption | with_reducible exact Below.refl _ _ | with_reducible refine Below.setCell ?_ ?_ _ | with_reducible refine Below.alloc ?_ ?_ _ | with_reducible refine Below.drew ?_ | with_reducible refine below_drewN ?_ _ | omega | (simp; done) | (simp; omega))))).on _) (fun _ x _ => x)) (fun b hb => .inr (by simp at hb; omega))).mono ?_; rintro e w3 ⟨x3, y3, rfl, hr3, hb3⟩; have hq := rsv_void hr3; rw [Hv.out] at hq; obtain ⟨i3, rfl⟩ := rsv_num hr3; have HR3 := Lib.hid hr3; clear hr3; obtain rfl := hq; have hB3 := keeps_below (show Below w.heap.size w _ from (by repeat' (first | with_reducible assumption | with_reducible exact Below.refl _ _ | with_reducible refine Below.setCell ?_ ?_ _ | with_reducible refine Below.alloc ?_ ?_ _ | with_reducible refine Below.drew ?_ | with_reducible refine below_drewN ?_ _ | omega | (simp; done) | (simp; omega)))) hb3; obtain ⟨hc3, hf3⟩ := bcell hb3; have hs3 := hb3.size; (try simp at hs3); have hl3 : w.heap.size < w3.heap.size := (by omega)))
        go_wp2
        refine bodyPost_ret (v := .tuple #[.agg #[.string badKey, .int .u64 i3, .nilIface], .slice (cut b o c 1) m c]) ?_ rfl ⟨_, _, rfl, HR3.out.turn (by repeat' (first | with_reducible assumption | with_reducible exact KeepsOn.refl _ _ | with_reducible refine KeepsOn.setCell ?_ ?_ _ | with_reducible refine KeepsOn.alloc ?_ _ | with_reducible refine KeepsOn.drew ?_ | (intro b hb; simp at hb ⊢; omega) | (rintro b ⟨_, hb⟩; simp at hb ⊢; omega) | (rintro b ⟨_, hb⟩; omega))) (fun b hb _ => by rcases hb with h | h; exact h.1; exact HP.out b (by omega)), (by repeat' (first | with_reducible assumption | with_reducible exact Below.refl _ _ | with_reducible refine Below.setCell ?_ ?_ _ | with_reducible refine Below.alloc ?_ ?_ _ | with_reducible refine Below.drew ?_ | with_reducible refine below_drewN ?_ _ | omega | (simp; done) | (simp; omega)))⟩
        simp [results, Tryz.results109, go_sem, hc3, hf3, hl3, badKey, cut, *]; (try rfl)
  | false =>
    have Hv := Lib.hid hv
    clear hv
    rcases hzt with rfl | ⟨t, u, rfl, ht1, ht2⟩
    all_goals
      by_cases hc0 : c = 0
      · have hm0 : m = 0 := by omega
        subst hc0 hm0
        go_enter Tryz.func109, Tryz.ntmps109
        go_wp2_with fail
        go_region_held3 (fun wx => wx.cell? ⟨b, o, none⟩ = w.cell? ⟨b, o, none⟩) (go_keep) (first | (go_at_call 159; refine (HV.out (fun b => (P b ∧ b < w.heap.size) ∨ w.heap.size + 1 ≤ b) _ (Hz.out.turn ((keeps_of_below (show Below w.heap.size w _ from (by repeat' (first | with_reducible assumption | with_reducible exact Below.refl _ _ | with_reducible refine Below.setCell ?_ ?_ _ | with_reducible refine Below.alloc ?_ ?_ _ | with_reducible refine Below.drew ?_ | with_reducible refine below_drewN ?_ _ | omega | (simp; done) | (simp; omega))))).on _) (fun _ x _ => x)) (fun b hb => .inr (by simp at hb; omega))).mono ?_; rintro e w3 ⟨x3, y3, rfl, hr3, hb3⟩; have hq := rsv_void hr3; rw [Hv.out] at hq; obtain ⟨i3, rfl⟩ := rsv_num hr3; have HR3 := Lib.hid hr3; clear hr3; obtain ⟨t3, u3, rfl⟩ := hq; have hB3 := keeps_below (show Below w.heap.size w _ from (by repeat' (first | with_reducible assumption | with_reducible exact Below.refl _ _ | with_reducible refine Below.setCell ?_ ?_ _ | with_reducible refine Below.alloc ?_ ?_ _ | with_reducible refine Below.drew ?_ | with_reducible refine below_drewN ?_ _ | omega | (simp; done) | (simp; omega)))) hb3; obtain ⟨hc3, hf3⟩ := bcell hb3; have hs3 := hb3.size; (try simp at hs3); have hl3 : w.heap.size < w3.heap.size := (by omega)))
        go_wp2
        refine bodyPost_ret (v := .tuple #[.agg #[.string badKey, .int .u64 i3, .iface t3 u3], .slice (cut b o 0 1) 0 0]) ?_ rfl ⟨_, _, rfl, HR3.out.turn (by repeat' (first | with_reducible assumption | with_reducible exact KeepsOn.refl _ _ | with_reducible refine KeepsOn.setCell ?_ ?_ _ | with_reducible refine KeepsOn.alloc ?_ _ | with_reducible refine KeepsOn.drew ?_ | (intro b hb; simp at hb ⊢; omega) | (rintro b ⟨_, hb⟩; simp at hb ⊢; omega) | (rintro b ⟨_, hb⟩; omega))) (fun b hb _ => by rcases hb with h | h; exact h.1; exact HP.out b (by omega)), (by repeat' (first | with_reducible assumption | with_reducible exact Below.refl _ _ | with_reducible refine Below.setCell ?_ ?_ _ | with_reducible refine Below.alloc ?_ ?_ _ | with_reducible refine Below.drew ?_ | with_reducible refine below_drewN ?_ _ | omega | (simp; done) | (simp; omega)))⟩
        simp [results, Tryz.results109, go_sem, hc3, hf3, hl3, badKey, cut, *]; (try rfl)
      · go_enter Tryz.func109, Tryz.ntmps109
        go_wp2_with fail
        go_region_held3 (fun wx => wx.cell? ⟨b, o, none⟩ = w.cell? ⟨b, o, none⟩) (go_keep) (first | (go_at_call 159; refine (HV.out (fun b => (P b ∧ b < w.heap.size) ∨ w.heap.size + 1 ≤ b) _ (Hz.out.turn ((keeps_of_below (show Below w.heap.size w _ from (by repeat' (first | with_reducible assumption | with_reducible exact Below.refl _ _ | with_reducible refine Below.setCell ?_ ?_ _ | with_reducible refine Below.alloc ?_ ?_ _ | with_reducible refine Below.drew ?_ | with_reducible refine below_drewN ?_ _ | omega | (simp; done) | (simp; omega))))).on _) (fun _ x _ => x)) (fun b hb => .inr (by simp at hb; omega))).mono ?_; rintro e w3 ⟨x3, y3, rfl, hr3, hb3⟩; have hq := rsv_void hr3; rw [Hv.out] at hq; obtain ⟨i3, rfl⟩ := rsv_num hr3; have HR3 := Lib.hid hr3; clear hr3; obtain ⟨t3, u3, rfl⟩ := hq; have hB3 := keeps_below (show Below w.heap.size w _ from (by repeat' (first | with_reducible assumption | with_reducible exact Below.refl _ _ | with_reducible refine Below.setCell ?_ ?_ _ | with_reducible refine Below.alloc ?_ ?_ _ | with_reducible refine Below.drew ?_ | with_reducible refine below_drewN ?_ _ | omega | (simp; done) | (simp; omega)))) hb3; obtain ⟨hc3, hf3⟩ := bcell hb3; have hs3 := hb3.size; (try simp at hs3); have hl3 : w.heap.size < w3.heap.size := (by omega)))
        go_wp2
        refine bodyPost_ret (v := .tuple #[.agg #[.string badKey, .int .u64 i3, .iface t3 u3], .slice (cut b o c 1) m c]) ?_ rfl ⟨_, _, rfl, HR3.out.turn (by repeat' (first | with_reducible assumption | with_reducible exact KeepsOn.refl _ _ | with_reducible refine KeepsOn.setCell ?_ ?_ _ | with_reducible refine KeepsOn.alloc ?_ _ | with_reducible refine KeepsOn.drew ?_ | (intro b hb; simp at hb ⊢; omega) | (rintro b ⟨_, hb⟩; simp at hb ⊢; omega) | (rintro b ⟨_, hb⟩; omega))) (fun b hb _ => by rcases hb with h | h; exact h.1; exact HP.out b (by omega)), (by repeat' (first | with_reducible assumption | with_reducible exact Below.refl _ _ | with_reducible refine Below.setCell ?_ ?_ _ | with_reducible refine Below.alloc ?_ ?_ _ | with_reducible refine Below.drew ?_ | with_reducible refine below_drewN ?_ _ | omega | (simp; done) | (simp; omega)))⟩
        simp [results, Tryz.results109, go_sem, hc3, hf3, hl3, badKey, cut, *]; (try rfl)

set_option maxRecDepth 100000 in
set_option maxHeartbeats 2000000 in
theorem to_pair {P : Nat → Prop} (s : ByteArray) (a : GArg) (hmc : m ≤ c) (z : Value) (h : RArg P w a z) (h0 : a.what ≠ 0) (hw : a.val.wf) (hs : a.val.size ≤ 65536) (hP : ∀ b, w.heap.size ≤ b → P b)
    (hz0 : w.cell? ⟨b, o, none⟩ = some (.iface 9 (.string s))) (hz : w.cell? ⟨b, o + 1, none⟩ = some z) :
    Calls Tryz.prog 109 #[.slice (some ⟨b, o, none⟩) (m + 1 + 1) (c + 1 + 1)] w (ToPost P s (valueOf none a.val) (if c = 0 then some ⟨b, o, none⟩ else some ⟨b, o + 2, none⟩) m c w) := by
  unfold ToPost
  have HV := Lib.hid (fun P wx h hP => sAny_arg (P := P) s a wx z h h0 hw hs hP)
  have Hz := Lib.hid (h.turn (Q := fun b => (P b ∧ b < w.heap.size) ∨ w.heap.size + 1 ≤ b) (KeepsOn.refl _ _) (fun b h h' => .inl ⟨h, h'⟩))
  have HP := Lib.hid hP
  have hzt := h.shape
  have hbb : b < w.heap.size := World.block_lt_of_cell? w _ hz
  have hbb1 : b < w.heap.size + 1 := by omega
  have hbn : b ≠ w.heap.size := by omega
  have hbn2 : ¬ w.heap.size = b := by omega
  have hne := World.new_ne w ⟨b, o + 1, none⟩ hz
  have hlr : (0 : Int) < ((m + 1 + 1 : Nat) : Int) := by omega
  have hlr2 : (1 : Int) < (m : Int) + 1 + 1 := by omega
  have hlr3 : (2 : Int) ≤ (m : Int) + 1 + 1 := by omega
  have hlr4 : (0 : Int) < (m : Int) + 1 + 1 := by omega
  have hl1 : (((m : Int) + 1 + 1) == 1) = false := by simp; omega
  clear h hP h0 hw hs
  cases hv : voidV (valueOf none a.val) with
  | true =>
    have Hv := Lib.hid hv
    clear hv
    rcases hzt with rfl | ⟨t, u, rfl⟩
    all_goals
      by_cases hc0 : c = 0
      · have hm0 : m = 0 := by omega
        subst hc0 hm0
        go_enter Tryz.func109, Tryz.ntmps109
        go_wp2_with fail
        go_region_held3 (fun wx => wx.cell? ⟨b, o + 1, none⟩ = w.cell? ⟨b, o + 1, none⟩) (go_keep) (first | (go_at_call 159; refine (HV.out (fun b => (P b ∧ b < w.heap.size) ∨ w.heap.size + 1 ≤ b) _ (Hz.out.turn ((keeps_of_below (show Below w.heap.size w _ from (by repeat' (first | with_reducible assumption | with_reducible exact Below.refl _ _ | with_reducible refine Below.setCell ?_ ?_ _ | with_reducible refine Below.alloc ?_ ?_ _ | with_reducible refine Below.drew ?_ | with_reducible refine below_drewN ?_ _ | omega | (simp; done) | (simp; omega))))).on _) (fun _ x _ => x)) (fun b hb => .inr (by simp at hb; omega))).mono ?_; rintro e w3 ⟨x3, y3, rfl, hr3, hb3⟩; have hq := rsv_void hr3; rw [Hv.out] at hq; obtain ⟨i3, rfl⟩ := rsv_num hr3; have HR3 := Lib.hid hr3; clear hr3; obtain rfl := hq; have hB3 := keeps_below (show Below w.heap.size w _ from (by repeat' (first | with_reducible assumption | with_reducible exact Below.refl _ _ | with_reducible refine Below.setCell ?_ ?_ _ | with_reducible refine Below.alloc ?_ ?_ _ | with_reducible refine Below.drew ?_ | with_reducible refine below_drewN ?_ _ | omega | (simp; done) | (simp; omega)))) hb3; obtain ⟨hc3, hf3⟩ := bcell hb3; have hs3 := hb3.size; (try simp at hs3); have hl3 : w.heap.size < w3.heap.size := (by omega)))
        go_wp2
        refine bodyPost_ret (v := .tuple #[.agg #[.string s, .int .u64 i3, .nilIface], .slice (some ⟨b, o, none⟩) 0 0]) ?_ rfl ⟨_, _, rfl, HR3.out.turn (by repeat' (first | with_reducible assumption | with_reducible exact KeepsOn.refl _ _ | with_reducible refine KeepsOn.setCell ?_ ?_ _ | with_reducible refine KeepsOn.alloc ?_ _ | with_reducible refine KeepsOn.drew ?_ | (intro b hb; simp at hb ⊢; omega) | (rintro b ⟨_, hb⟩; simp at hb ⊢; omega) | (rintro b ⟨_, hb⟩; omega))) (fun b hb _ => by rcases hb with h | h; exact h.1; exact HP.out b (by omega)), (by repeat' (first | with_reducible assumption | with_reducible exact Below.refl _ _ | with_reducible refine Below.setCell ?_ ?_ _ | with_reducible refine Below.alloc ?_ ?_ _ | with_reducible refine Below.drew ?_ | with_reducible refine below_drewN ?_ _ | omega | (simp; done) | (simp; omega)))⟩
        simp [results, Tryz.results109, go_sem, hc3, hf3, hl3, *]; (try rfl)
      · go_enter Tryz.func109, Tryz.ntmps109
        go_wp2_with fail
        go_region_held3 (fun wx => wx.cell? ⟨b, o + 1, none⟩ = w.cell? ⟨b, o + 1, none⟩) (go_keep) (first | (go_at_call 159; refine (HV.out (fun b => (P b ∧ b < w.heap.size) ∨ w.heap.size + 1 ≤ b) _ (Hz.out.turn ((keeps_of_below (show Below w.heap.size w _ from (by repeat' (first | with_reducible assumption | with_reducible exact Below.refl _ _ | with_reducible refine Below.setCell ?_ ?_ _ | with_reducible refine Below.alloc ?_ ?_ _ | with_reducible refine Below.drew ?_ | with_reducible refine below_drewN ?_ _ | omega | (simp; done) | (simp; omega))))).on _) (fun _ x _ => x)) (fun b hb => .inr (by simp at hb; omega))).mono ?_; rintro e w3 ⟨x3, y3, rfl, hr3, hb3⟩; have hq := rsv_void hr3; rw [Hv.out] at hq; obtain ⟨i3, rfl⟩ := rsv_num hr3; have HR3 := Lib.hid hr3; clear hr3; obtain rfl := hq; have hB3 := keeps_below (show Below w.heap.size w _ from (by repeat' (first | with_reducible assumption | with_reducible exact Below.refl _ _ | with_reducible refine Below.setCell ?_ ?_ _ | with_reducible refine Below.alloc ?_ ?_ _ | with_reducible refine Below.drew ?_ | with_reducible refine below_drewN ?_ _ | omega | (simp; done) | (simp; omega)))) hb3; obtain ⟨hc3, hf3⟩ := bcell hb3; have hs3 := hb3.size; (try simp at hs3); have hl3 : w.heap.size < w3.heap.size := (by omega)))
        go_wp2
        refine bodyPost_ret (v := .tuple #[.agg #[.string s, .int .u64 i3, .nilIface], .slice (some ⟨b, o + 2, none⟩) m c]) ?_ rfl ⟨_, _, rfl, HR3.out.turn (by repeat' (first | with_reducible assumption | with_reducible exact KeepsOn.refl _ _ | with_reducible refine KeepsOn.setCell ?_ ?_ _ | with_reducible refine KeepsOn.alloc ?_ _ | with_reducible refine KeepsOn.drew ?_ | (intro b hb; simp at hb ⊢; omega) | (rintro b ⟨_, hb⟩; simp at hb ⊢; omega) | (rintro b ⟨_, hb⟩; omega))) (fun b hb _ => by rcases hb with h | h; exact h.1; exact HP.out b (by omega)), (by repeat' (first | with_reducible assumption | with_reducible exact Below.refl _ _ | with_reducible refine Below.setCell ?_ ?_ _ | with_reducible refine Below.alloc ?_ ?_ _ | with_reducible refine Below.drew ?_ | with_reducible refine below_drewN ?_ _ | omega | (simp; done) | (simp; omega)))⟩
        simp [results, Tryz.results109, go_sem, hc3, hf3, hl3, *]; (try rfl)
  | false =>
    have Hv := Lib.hid hv
    clear hv
    rcases hzt with rfl | ⟨t, u, rfl⟩
    all_goals
      by_cases hc0 : c = 0
      · have hm0 : m = 0 := by omega
        subst hc0 hm0
        go_enter Tryz.func109, Tryz.ntmps109
        go_wp2_with fail
        go_region_held3 (fun wx => wx.cell? ⟨b, o + 1, none⟩ = w.cell? ⟨b, o + 1, none⟩) (go_keep) (first | (go_at_call 159; refine (HV.out (fun b => (P b ∧ b < w.heap.size) ∨ w.heap.size + 1 ≤ b) _ (Hz.out.turn ((keeps_of_below (show Below w.heap.size w _ from (by repeat' (first | with_reducible assumption | with_reducible exact Below.refl _ _ | with_reducible refine Below.setCell ?_ ?_ _ | with_reducible refine Below.alloc ?_ ?_ _ | with_reducible refine Below.drew ?_ | with_reducible refine below_drewN ?_ _ | omega | (simp; done) | (simp; omega))))).on _) (fun _ x _ => x)) (fun b hb => .inr (by simp at hb; omega))).mono ?_; rintro e w3 ⟨x3, y3, rfl, hr3, hb3⟩; have hq := rsv_void hr3; rw [Hv.out] at hq; obtain ⟨i3, rfl⟩ := rsv_num hr3; have HR3 := Lib.hid hr3; clear hr3; obtain ⟨t3, u3, rfl⟩ := hq; have hB3 := keeps_below (show Below w.heap.size w _ from (by repeat' (first | with_reducible assumption | with_reducible exact Below.refl _ _ | with_reducible refine Below.setCell ?_ ?_ _ | with_reducible refine Below.alloc ?_ ?_ _ | with_reducible refine Below.drew ?_ | with_reducible refine below_drewN ?_ _ | omega | (simp; done) | (simp; omega)))) hb3; obtain ⟨hc3, hf3⟩ := bcell hb3; have hs3 := hb3.size; (try simp at hs3); have hl3 : w.heap.size < w3.heap.size := (by omega)))
        go_wp2
        refine bodyPost_ret (v := .tuple #[.agg #[.string s, .int .u64 i3, .iface t3 u3], .slice (some ⟨b, o, none⟩) 0 0]) ?_ rfl ⟨_, _, rfl, HR3.out.turn (by repeat' (first | with_reducible assumption | with_reducible exact KeepsOn.refl _ _ | with_reducible refine KeepsOn.setCell ?_ ?_ _ | with_reducible refine KeepsOn.alloc ?_ _ | with_reducible refine KeepsOn.drew ?_ | (intro b hb; simp at hb ⊢; omega) | (rintro b ⟨_, hb⟩; simp at hb ⊢; omega) | (rintro b ⟨_, hb⟩; omega))) (fun b hb _ => by rcases hb with h | h; exact h.1; exact HP.out b (by omega)), (by repeat' (first | with_reducible assumption | with_reducible exact Below.refl _ _ | with_reducible refine Below.setCell ?_ ?_ _ | with_reducible refine Below.alloc ?_ ?_ _ | with_reducible refine Below.drew ?_ | with_reducible refine below_drewN ?_ _ | omega | (simp; done) | (simp; omega)))⟩
        simp [results, Tryz.results109, go_sem, hc3, hf3, hl3, *]; (try rfl)
      · go_enter Tryz.func109, Tryz.ntmps109
        go_wp2_with fail
        go_region_held3 (fun wx => wx.cell? ⟨b, o + 1, none⟩ = w.cell? ⟨b, o + 1, none⟩) (go_keep) (first | (go_at_call 159; refine (HV.out (fun b => (P b ∧ b < w.heap.size) ∨ w.heap.size + 1 ≤ b) _ (Hz.out.turn ((keeps_of_below (show Below w.heap.size w _ from (by repeat' (first | with_reducible assumption | with_reducible exact Below.refl _ _ | with_reducible refine Below.setCell ?_ ?_ _ | with_reducible refine Below.alloc ?_ ?_ _ | with_reducible refine Below.drew ?_ | with_reducible refine below_drewN ?_ _ | omega | (simp; done) | (simp; omega))))).on _) (fun _ x _ => x)) (fun b hb => .inr (by simp at hb; omega))).mono ?_; rintro e w3 ⟨x3, y3, rfl, hr3, hb3⟩; have hq := rsv_void hr3; rw [Hv.out] at hq; obtain ⟨i3, rfl⟩ := rsv_num hr3; have HR3 := Lib.hid hr3; clear hr3; obtain ⟨t3, u3, rfl⟩ := hq; have hB3 := keeps_below (show Below w.heap.size w _ from (by repeat' (first | with_reducible assumption | with_reducible exact Below.refl _ _ | with_reducible refine Below.setCell ?_ ?_ _ | with_reducible refine Below.alloc ?_ ?_ _ | with_reducible refine Below.drew ?_ | with_reducible refine below_drewN ?_ _ | omega | (simp; done) | (simp; omega)))) hb3; obtain ⟨hc3, hf3⟩ := bcell hb3; have hs3 := hb3.size; (try simp at hs3); have hl3 : w.heap.size < w3.heap.size := (by omega)))
        go_wp2
        refine bodyPost_ret (v := .tuple #[.agg #[.string s, .int .u64 i3, .iface t3 u3], .slice (some ⟨b, o + 2, none⟩) m c]) ?_ rfl ⟨_, _, rfl, HR3.out.turn (by repeat' (first | with_reducible assumption | with_reducible exact KeepsOn.refl _ _ | with_reducible refine KeepsOn.setCell ?_ ?_ _ | with_reducible refine KeepsOn.alloc ?_ _ | with_reducible refine KeepsOn.drew ?_ | (intro b hb; simp at hb ⊢; omega) | (rintro b ⟨_, hb⟩; simp at hb ⊢; omega) | (rintro b ⟨_, hb⟩; omega))) (fun b hb _ => by rcases hb with h | h; exact h.1; exact HP.out b (by omega)), (by repeat' (first | with_reducible assumption | with_reducible exact Below.refl _ _ | with_reducible refine Below.setCell ?_ ?_ _ | with_reducible refine Below.alloc ?_ ?_ _ | with_reducible refine Below.drew ?_ | with_reducible refine below_drewN ?_ _ | omega | (simp; done) | (simp; omega)))⟩
        simp [results, Tryz.results109, go_sem, hc3, hf3, hl3, *]; (try rfl)

end

end Go.Proofs.YtihhgnbgejjijaaGreatDoor.Va

/- slog.argsToAttr whole; argsToAttrSlice, Group: the walks. -/
namespace Go.Proofs.YtihhgnbgejjijaaGreatDoor.Va
set_option linter.unusedVariables false
set_option linter.unusedSimpArgs false
open Go Go.RowKit

/-- What argsToAttr takes off a row of arguments: a key, a value, and the rest. -/
def toA (a : GArg) (r : List GArg) : ByteArray × GVal × List GArg :=
  if a.what = 0 then (a.key, a.val, r) else if a.what = 1 ∧ a.val.kind = 5 then (match r with | [] => (badKey, a.val, []) | b :: r2 => (a.val.s, b.val, r2)) else (badKey, a.val, r)
theorem toA_attr {a : GArg} {r : List GArg} (h : a.what = 0) : toA a r = (a.key, a.val, r) := if_pos h
theorem toA_last {a : GArg} (h : a.what = 1) (h2 : a.val.kind = 5) : toA a [] = (badKey, a.val, []) := by
  unfold toA; rw [if_neg (by omega), if_pos ⟨h, h2⟩]
theorem toA_pair {a b : GArg} {r : List GArg} (h : a.what = 1) (h2 : a.val.kind = 5) : toA a (b :: r) = (a.val.s, b.val, r) := by
  unfold toA; rw [if_neg (by omega), if_pos ⟨h, h2⟩]
theorem toA_bad {a : GArg} {r : List GArg} (h : a.what ≠ 0) (h2 : ¬ (a.what = 1 ∧ a.val.kind = 5)) : toA a r = (badKey, a.val, r) := by
  unfold toA; rw [if_neg h, if_neg h2]
theorem rcRaw_toA (a : GArg) (r : List GArg) : rcRaw (a :: r) = .cons (toA a r).1 (toA a r).2.1 (rcRaw (toA a r).2.2) := by
  by_cases h : a.what = 0
  · rw [toA_attr h, rcRaw_attr h]
  · by_cases h2 : a.what = 1 ∧ a.val.kind = 5
    · cases r with
      | nil => rw [toA_last h2.1 h2.2, rcRaw_last h]; rfl
      | cons b r => rw [toA_pair h2.1 h2.2, rcRaw_pair h2.1 h2.2]
    · rw [toA_bad h h2, rcRaw_bad h h2]

/-- No string takes an attribute as its value. -/
def pairsOk : List GArg → Prop
  | [] => True
  | [_] => True
  | a :: b :: r => if a.what = 1 ∧ a.val.kind = 5 then b.what ≠ 0 ∧ pairsOk r else pairsOk (b :: r)
/-- What holds of a row holds of what is left of it. -/
theorem toA_rest {a : GArg} {r : List GArg} (hok : argsOk (a :: r)) (hwf : argsWf (a :: r)) (hp : pairsOk (a :: r)) :
    argsOk (toA a r).2.2 ∧ argsWf (toA a r).2.2 ∧ pairsOk (toA a r).2.2 ∧ (toA a r).2.2.length ≤ r.length := by
  have h1 := hok.2.2
  have h2 := hwf.2
  by_cases h : a.what = 1 ∧ a.val.kind = 5
  · cases r with
    | nil => rw [toA_last h.1 h.2]; exact ⟨trivial, trivial, trivial, Nat.le_refl _⟩
    | cons b r =>
      rw [toA_pair h.1 h.2]
      rw [pairsOk, if_pos h] at hp
      exact ⟨h1.2.2, h2.2, hp.2, by simp⟩
  · have h3 : pairsOk r := by
      cases r with
      | nil => trivial
      | cons b r => rw [pairsOk, if_neg h] at hp; exact hp
    by_cases h0 : a.what = 0
    · rw [toA_attr h0]; exact ⟨h1, h2, h3, Nat.le_refl _⟩
    · rw [toA_bad h0 h]; exact ⟨h1, h2, h3, Nat.le_refl _⟩

theorem value_not_str {d : GVal} (h : d.kind ≠ 5) (s : ByteArray) : valueOf none d ≠ .str s := by
  obtain ⟨k, n, s', t, l⟩ := d
  simp only [kind_mk] at h
  unfold valueOf
  repeat' split
  all_goals first | (intro e; cases e; done) | (exfalso; omega)
theorem Raw.type {P : Nat → Prop} {w : World} {d : SVal} {z : Value} (h : Raw P w d z) (hn : ∀ s, d ≠ .str s) : z = .nilIface ∨ ∃ t u, z = .iface t u ∧ ¬ t = 9 ∧ ¬ t = 111 := by
  cases d with
  | num k n =>
    rcases h.2 with ⟨_, e⟩ | ⟨_, e⟩ | ⟨_, e⟩ | ⟨_, e⟩ | ⟨_, e⟩ <;> exact .inr ⟨_, _, e, by decide, by decide⟩
  | str s => exact absurd rfl (hn s)
  | time t => exact .inr ⟨_, _, h, by decide, by decide⟩
  | group l => obtain ⟨A, len, cap, e, hl⟩ := h; exact .inr ⟨_, _, e, by decide, by decide⟩
  | any g =>
    cases g with
    | nil => exact .inl h
    | bytes s => obtain ⟨A, len, cap, e, _⟩ := h; exact .inr ⟨_, _, e, by decide, by decide⟩
    | source f s n => obtain ⟨b, e, _⟩ := h; exact .inr ⟨_, _, e, by decide, by decide⟩
    | made g => exact (h : False).elim
    | _ => exact .inr ⟨_, _, h, by decide, by decide⟩
  | valuer n v c => obtain ⟨vx, vy, e, hv⟩ := h; exact .inr ⟨_, _, e, by decide, by decide⟩
  | throws s c => exact .inr ⟨_, _, h, by decide, by decide⟩

/-- How argsToAttr ends. -/
def TakePost (P : Nat → Prop) (a : GArg) (r : List GArg) (w : World) (e : Ending) (w' : World) : Prop :=
  ∃ x y A len cap, e = .returned (.tuple #[.agg #[.string (toA a r).1, x, y], .slice A len cap]) ∧ RSV P w' (valueOf none (toA a r).2.1) x y ∧ RAnyS P w' (toA a r).2.2 A len ∧ len ≤ cap ∧ Below w.heap.size w w'

/-- slog.argsToAttr. -/
theorem argsToAttr_any {P : Nat → Prop} (a : GArg) (r : List GArg) (w : World) (A : Option Addr) (len cap : Nat) (h : RAnyS P w (a :: r) A len) (hlc : len ≤ cap) (hok : argsOk (a :: r)) (hwf : argsWf (a :: r)) (hp : pairsOk (a :: r))
    (hP : ∀ b, w.heap.size ≤ b → P b) : Calls Tryz.prog 109 #[.slice A len cap] w (TakePost P a r w) := by
  unfold TakePost
  obtain ⟨h0, h1⟩ := h
  have hl : len = r.length + 1 := by simpa using h0
  subst hl
  obtain ⟨c, rfl⟩ : ∃ c, cap = c + 1 := ⟨cap - 1, by omega⟩
  obtain ⟨b, o, rfl, hpb, ⟨z, hz, hza⟩, hr⟩ := h1 (by omega)
  have hmc : r.length ≤ c := by omega
  have hrest : ∀ w', Below w.heap.size w w' → RAnyS P w' r (cut b o c 1) r.length := fun w' hb => ⟨rfl, fun hp => ⟨b, o + 1, by unfold cut; rw [if_neg (by omega)], hpb, RAnys.turn ((keeps_of_below hb).on P) (fun _ x _ => x) r b (o + 1) hpb hr⟩⟩
  by_cases hw0 : a.what = 0
  · rw [toA_attr hw0]
    rcases hza with ⟨_, x, y, rfl, hv⟩ | ⟨e, _⟩ | ⟨e, _⟩
    · obtain ⟨i, rfl, hy⟩ := rsv_shape hv
      exact (to_attr w b o r.length c hmc a.key i y hy hz).mono fun e w' q => ⟨_, _, _, _, _, q.1, hv.turn ((keeps_of_below q.2).on P) (fun _ x _ => x), hrest w' q.2, hmc, q.2⟩
    · omega
    · omega
  · by_cases hw5 : a.what = 1 ∧ a.val.kind = 5
    · have hv5 : valueOf none a.val = .str a.val.s := by
        obtain ⟨_, k5⟩ := hw5
        obtain ⟨what, key, ⟨k, n, s, t, l⟩⟩ := a
        simp only [kind_mk] at k5
        subst k5
        exact pvalue_str none n s t l
      rcases hza with ⟨e, _⟩ | ⟨_, hz1⟩ | ⟨e, _⟩
      · omega
      · rw [hv5] at hz1
        have hz1 : z = .iface 9 (.string a.val.s) := hz1
        subst hz1
        cases r with
        | nil =>
          rw [toA_last hw5.1 hw5.2]
          have hs : a.val.s.size ≤ 140737488355328 := by
            have := hwf.1.2.2
            obtain ⟨what, key, ⟨k, n, s, t, l⟩⟩ := a
            unfold GVal.wf at this
            exact this.2.2.1
          refine (to_last w b o c a.val.s hs hz).mono fun e w' q => ⟨_, _, _, _, _, q.1, ?_, ⟨rfl, fun h => absurd h (by omega)⟩, Nat.le_refl _, q.2⟩
          show RSV P w' (valueOf none a.val) _ _
          rw [hv5]
          unfold RSV
          exact ⟨rfl, rfl⟩
        | cons b2 r2 =>
          rw [toA_pair hw5.1 hw5.2]
          rw [pairsOk, if_pos hw5] at hp
          obtain ⟨c2, rfl⟩ : ∃ c2, c = c2 + 1 := ⟨c - 1, by simp at hmc; omega⟩
          obtain ⟨⟨z2, hz2, hza2⟩, hr2⟩ := hr
          refine (to_pair w b o r2.length c2 a.val.s b2 (by simp at hmc; omega) z2 hza2 hp.1 hwf.2.1.2.2 hok.2.2.2.1 hP hz hz2).mono fun e w' q => ?_
          obtain ⟨x, y, e1, e2, e3⟩ := q
          refine ⟨x, y, _, _, _, e1, e2, ⟨rfl, fun hp => ⟨b, o + 2, ?_, hpb, ?_⟩⟩, by simp at hmc; omega, e3⟩
          · rw [if_neg (by simp at hmc; omega)]
          · exact RAnys.turn ((keeps_of_below e3).on P) (fun _ x _ => x) r2 b (o + 1 + 1) hpb hr2
      · omega
    · rw [toA_bad hw0 hw5]
      have hzt : z = .nilIface ∨ ∃ t u, z = .iface t u ∧ ¬ t = 9 ∧ ¬ t = 111 := by
        rcases hza with ⟨e, _⟩ | ⟨e1, hz1⟩ | ⟨_, x, y, e, _⟩
        · exact absurd e hw0
        · exact hz1.type (value_not_str (fun h => hw5 ⟨e1, h⟩))
        · exact .inr ⟨_, _, e, by decide, by decide⟩
      refine (to_bad w b o r.length c a hmc z hza hw0 hwf.1.2.2 hok.2.1 hP hzt hz).mono fun e w' q => ?_
      obtain ⟨x, y, e1, e2, e3⟩ := q
      exact ⟨x, y, _, _, _, e1, e2, hrest w' e3, hmc, e3⟩

/-- What an attribute more makes of the call's own row. -/
theorem rsx_snocP {P Q : Nat → Prop} {w2 w3 wn : World} {u : Option Nat} {acc : SAttrs} {xs : List Value} {key : ByteArray} {d : SVal} {vx vy : Value} (hx : RSX P w2 acc xs) (hd : RSV P w2 d vx vy) (hk : KeepsOn P w2 wn)
    (hg : wn.grownBy w3 u) (hPu : ∀ b, P b → some b ≠ u) (hQ : ∀ b, P b → b < w2.heap.size → Q b) : RSX Q w3 (SAttrs.snoc acc key d) (xs ++ [.string key, vx, vy]) := by
  have hK : KeepsOn P w2 w3 := hk.trans (keepsOn_of_grown hg (fun b hb => hPu b hb))
  exact RSX.snoc (hd.turn hK hQ) acc xs (RSX.turn hK hQ acc xs hx)

/-- The blocks that the row's values may lie in. -/
def Apart (P : Nat → Prop) (g : Nat) (u : Value) : Nat → Prop := fun b => P b ∧ b ≠ g ∧ some b ≠ u.ownBlock
/-- The variable's box. -/
def VarBox (g : Nat) (w : World) : Prop := (∃ v0 v1 v2, w.cell? ⟨g, 0, none⟩ = some v0 ∧ w.cell? ⟨g, 1, none⟩ = some v1 ∧ w.cell? ⟨g, 2, none⟩ = some v2) ∧ w.frozen? ⟨g, 0, none⟩ = false ∧ w.frozen? ⟨g, 1, none⟩ = false ∧ w.frozen? ⟨g, 2, none⟩ = false
theorem varbox_next {w2 w3 : World} {g : Nat} {u : Option Nat} {v0 v1 v2 x0 x1 x2 : Value} {o : Obj} (hg : g < w2.heap.size) (k0 : w2.cell? ⟨g, 0, none⟩ = some v0) (k1 : w2.cell? ⟨g, 1, none⟩ = some v1) (k2 : w2.cell? ⟨g, 2, none⟩ = some v2)
    (n0 : w2.frozen? ⟨g, 0, none⟩ = false) (n1 : w2.frozen? ⟨g, 1, none⟩ = false) (n2 : w2.frozen? ⟨g, 2, none⟩ = false)
    (hG : ((((w2.setCell ⟨g, 0, none⟩ x0).setCell ⟨g, 1, none⟩ x1).setCell ⟨g, 2, none⟩ x2).alloc o).grownBy w3 u) (hu : some g ≠ u) : VarBox g w3 := by
  have hb := hG.block g (by simp; omega) hu
  have hc : ∀ i, w3.cell? ⟨g, i, none⟩ = _ := fun i => World.cell?_of_block (a := ⟨g, i, none⟩) hb
  have hf : ∀ i, w3.frozen? ⟨g, i, none⟩ = _ := fun i => World.frozen?_of_block (a := ⟨g, i, none⟩) hb
  refine ⟨⟨x0, x1, x2, ?_, ?_, ?_⟩, ?_, ?_, ?_⟩
  · rw [hc]; simp [go_sem, k0, k1, k2, hg]
  · rw [hc]; simp [go_sem, k0, k1, k2, hg]
  · rw [hc]; simp [go_sem, k0, k1, k2, hg]
  · rw [hf]; simp [go_sem, n0, hg]
  · rw [hf]; simp [go_sem, n1, hg]
  · rw [hf]; simp [go_sem, n2, hg]
/-- One round. -/
def TsRnd (P : Nat → Prop) (w : World) (l : List GArg) (s0 s4 : Value) (wr : World) : Prop :=
  ∃ (rest : List GArg) (A : Option Addr) (len cap : Nat) (acc : SAttrs) (n : Nat) (xs : List Value), s0 = .slice A len cap ∧ RAnyS (Apart P w.heap.size s4) wr rest A len ∧ len ≤ cap ∧ wr.ownsRow (w.heap.size + 1) 111 3 s4 n xs ∧
    RSX (Apart P w.heap.size s4) wr acc xs ∧ attrsOf none (rcRaw l) = SAttrs.append acc (attrsOf none (rcRaw rest)) ∧ acc.len + rest.length ≤ 300000 ∧ argsOk rest ∧ argsWf rest ∧ pairsOk rest ∧ VarBox w.heap.size wr ∧ w.heap.size < wr.heap.size ∧ Below w.heap.size w wr

/-- How argsToAttrSlice ends. -/
def SlPost (P : Nat → Prop) (l : SAttrs) (w : World) (e : Ending) (w' : World) : Prop := ∃ A len cap, e = .returned (.slice A len cap) ∧ RSS P w' l A len ∧ Below w.heap.size w w'

set_option maxRecDepth 100000 in
set_option maxHeartbeats 2000000 in
/-- slog.argsToAttrSlice. -/
theorem toSlice_any {P : Nat → Prop} (l : List GArg) (w : World) (A : Option Addr) (len cap : Nat) (h : RAnyS P w l A len) (hlc : len ≤ cap) (hok : argsOk l) (hwf : argsWf l) (hp : pairsOk l) (hlen : l.length ≤ 300000)
    (hP : ∀ b, w.heap.size ≤ b → P b) : Calls Tryz.prog 119 #[.slice A len cap] w (SlPost P (attrsOf none (rcRaw l)) w) := by
  unfold SlPost
  obtain ⟨i0, hi, hz0, hz1, hz2⟩ := info_parts infoSAttr
  have Hh := Lib.hid (fun wx hx => h.turn (Q := Apart P w.heap.size (.slice none 0 0)) (w' := wx) hx (fun b hb hlt => ⟨hb, by omega, fun e => by cases e⟩))
  have HP := Lib.hid hP
  have H0 := Lib.hid (And.intro hok (And.intro hwf (And.intro hp hlen)))
  clear h hP hok hwf hp hlen
  go_enter Tryz.func119, Tryz.ntmps119
  go_wp2
  go_loopw [0, 4] (fun x y wr => TsRnd P w l x y wr) (fun x _ _ => lenOf x)
  case atStart =>
    refine ⟨l, A, len, cap, .nil, 0, [], rfl, Hh.out _ ((KeepsOn.refl _ _).alloc _), hlc, World.ownsRow_nil _ _ _ _, rfl, rfl, by simp only [SAttrs.len]; have := H0.out.2.2.2; omega, H0.out.1, H0.out.2.1, H0.out.2.2.1, ⟨⟨_, _, _, cell_new _ _ _ _ _ _ rfl rfl, cell_new _ _ _ _ _ _ rfl rfl, cell_new _ _ _ _ _ _ rfl rfl⟩, ?_, ?_, ?_⟩, by simp, (Below.refl _ _).alloc (Nat.le_refl _) _⟩
    all_goals (simp [go_sem])
  case round =>
    clear Hh H0 hlc
    clear A len cap
    obtain ⟨rest, A, len, cap, acc, n, xs, rfl, ⟨hl0, hl1⟩, hlc, hown, hx, hval, hacc, hok, hwf, hp, ⟨⟨v0, v1, v2, k0, k1, k2⟩, f0, f1, f2⟩, hlt, hB⟩ := hrel
    have HX := Lib.hid hx
    have HO := Lib.hid hown
    have Hval := Lib.hid hval
    have hn : n ≤ acc.len := by have h1 := hown.1; have h2 := RSX.len acc xs hx; omega
    have hsize := hB.size
    cases rest with
    | nil =>
      replace hl0 : len = 0 := hl0
      subst hl0
      obtain ⟨A', cap', rfl, hrsp⟩ := rss_of_owns (Q := P) hown hx (fun b hb => hb.1) (fun b hb => HP.out b (by omega))
      have HR := Lib.hid hrsp
      clear hown hx hval hrsp hl1 hn hok hwf hp hacc
      go_wp2
      go_ret
      refine ⟨A', _, cap', rfl, ?_, hB⟩
      rw [Hval.out, show rcRaw [] = .nil from rfl, attrsOf_nil, sappend_nil]; exact HR.out
    | cons a r =>
      have hl : len = r.length + 1 := by simpa using hl0
      have hlen : (0 : Int) < (len : Int) := by omega
      have hAp : ∀ b, wr.heap.size ≤ b → Apart P w.heap.size _ b := fun b hb => ⟨HP.out b (by omega), by omega, fun e => by have := (hown.lt b e.symm).2; omega⟩
      have HC := Lib.hid (argsToAttr_any (P := Apart P w.heap.size _) a r wr A len cap ⟨hl0, hl1⟩ hlc hok hwf hp hAp)
      clear hAp
      have hrest := toA_rest hok hwf hp
      have Hend := Lib.hid (Hval.out.trans (congrArg (SAttrs.append acc) ((congrArg (attrsOf none) (rcRaw_toA a r)).trans (attrsOf_cons none _ _ _))))
      have HLT := Lib.hid (fun g hg => (hown.lt g hg).2)
      have HLO := Lib.hid (fun g hg => (hown.lt g hg).1)
      have HRs := Lib.hid hrest
      have hac : acc.len + 1 + r.length ≤ 300000 := by simp only [List.length_cons] at hacc; omega
      have hkn : n + 1 ≤ 300000 := by omega
      clear hl0 hl1 hlc hown hx hval hacc hok hwf hp hrest Hval hn
      unfold TakePost at HC
      generalize toA a r = T at HC Hend HRs
      have hlt1 : w.heap.size < wr.heap.size + 1 := by omega
      have Hl := Lib.hid hl
      clear hl
      obtain ⟨key, d, r2⟩ := T
      simp only at HC Hend HRs
      go_wp2_with (first
        | (go_at_call 109; (with_reducible refine HC.out.mono ?_); rintro e w2 ⟨x2, y2, A2, len2, cap2, rfl, hr2, ha2, hlc2, hb2⟩; obtain ⟨i2, rfl, hy⟩ := rsv_shape hr2; have HR2 := Lib.hid hr2; have HA2 := Lib.hid (And.intro ha2 hlc2); have HL2 := Lib.hid ha2.1; have hB2 := keeps_below hB hb2; have HB2 := Lib.hid hB2; have HBr := Lib.hid hb2; obtain ⟨hc2, hf2⟩ := bcell hb2; have hs2 := hb2.size; have hl2 : w.heap.size < w2.heap.size := (by omega); have HO2 := Lib.hid (own_below HO.out hb2); have g0 := (hc2 w.heap.size 0 hlt).trans k0; have g1 := (hc2 w.heap.size 1 hlt).trans k1; have g2 := (hc2 w.heap.size 2 hlt).trans k2; have n0 := (hf2 w.heap.size 0 hlt).trans f0; have n1 := (hf2 w.heap.size 1 hlt).trans f1; have n2 := (hf2 w.heap.size 2 hlt).trans f2; clear hr2 ha2 hlc2; rcases hy with rfl | ⟨ty, u2, rfl⟩)
        | (at_builtin; refine wpList_append_lies _ rfl (.tmp 13) (.tmp 15) 113 rfl (w.heap.size + 1) 111 i0 _ 3 40 Tryz.underlying113 hi hz0 hz1 hz2 rfl (by decide) _ n xs rfl ((ownsRow_setCell_below (ownsRow_setCell_below (ownsRow_setCell_below HO2.out (Nat.lt_succ_self _) _) (Nat.lt_succ_self _) _) (Nat.lt_succ_self _) _).alloc _) ⟨_, 0, none⟩ 1 1 [.string key, .int .u64 i2, .nilIface] rfl rfl (by intro j u hj; exact cells_new _ _ _ _ (by simp) j u hj) (by intro u hu; simp at hu; rcases hu with rfl | rfl | rfl; all_goals rfl) (by decide) (by unfold maxLen; omega) (by omega) (by simp; omega) _ rfl ?_; intro g cap3 w3 hown3 hgrow3 hat3 hlt3; have HO3 := Lib.hid hown3; have HG3 := Lib.hid hgrow3; have HA3 := Lib.hid hat3; have HT3 := Lib.hid hlt3; clear hown3 hgrow3 hat3 hlt3)
        | (at_builtin; refine wpList_append_lies _ rfl (.tmp 13) (.tmp 15) 113 rfl (w.heap.size + 1) 111 i0 _ 3 40 Tryz.underlying113 hi hz0 hz1 hz2 rfl (by decide) _ n xs rfl ((ownsRow_setCell_below (ownsRow_setCell_below (ownsRow_setCell_below HO2.out (Nat.lt_succ_self _) _) (Nat.lt_succ_self _) _) (Nat.lt_succ_self _) _).alloc _) ⟨_, 0, none⟩ 1 1 [.string key, .int .u64 i2, .iface ty u2] rfl rfl (by intro j u hj; exact cells_new _ _ _ _ (by simp) j u hj) (by intro u hu; simp at hu; rcases hu with rfl | rfl | rfl; all_goals rfl) (by decide) (by unfold maxLen; omega) (by omega) (by simp; omega) _ rfl ?_; intro g cap3 w3 hown3 hgrow3 hat3 hlt3; have HO3 := Lib.hid hown3; have HG3 := Lib.hid hgrow3; have HA3 := Lib.hid hat3; have HT3 := Lib.hid hlt3; clear hown3 hgrow3 hat3 hlt3))
      · have kS : KeepsOn (Apart P w.heap.size u4) w2 _ := ((((KeepsOn.refl _ _).setCell (p := ⟨w.heap.size, 0, none⟩) (fun b hb => hb.2.1) (.string key)).setCell (p := ⟨w.heap.size, 1, none⟩) (fun b hb => hb.2.1) (.int .u64 i2)).setCell (p := ⟨w.heap.size, 2, none⟩) (fun b hb => hb.2.1) (.nilIface)).alloc (.cells #[.string key, .int .u64 i2, .nilIface] 111)
        have kW := kS.trans (keepsOn_of_grown HG3.out (fun b hb => hb.2.2))
        have hQ : ∀ b, Apart P w.heap.size u4 b → b < w2.heap.size → Apart P w.heap.size (.slice (some ⟨g, 0, none⟩) (n + 1) cap3) b := by
          intro b hb hlt
          refine ⟨hb.1, hb.2.1, fun e => ?_⟩
          have e : some b = some g := e
          rcases HA3.out with h | h
          · exact hb.2.2 (e.trans h.symm)
          · injection e with e
            simp at h
            omega
        refine ⟨⟨r2, A2, len2, cap2, SAttrs.snoc acc key (valueOf none d), n + 1, _, rfl, HA2.out.1.turn kW hQ, HA2.out.2, HO3.out, rsx_snocP (RSX.turn (keepsOn_of_below HBr.out _) (fun _ h _ => h) _ _ HX.out) HR2.out kS HG3.out (fun b hb => hb.2.2) hQ, ?_, ?_, HRs.out.1, HRs.out.2.1, HRs.out.2.2.1, varbox_next hl2 g0 g1 g2 n0 n1 n2 HG3.out (fun e => by have := HLO.out _ e.symm; omega), ?_, ?_⟩, ?_⟩
        · rw [ssnoc_append]; exact Hend.out
        · rw [slen_snoc]; have := HRs.out.2.2.2; omega
        · have := HG3.out.size; simp at this; omega
        · exact Below.grown ((((HB2.out.setCell (Nat.le_refl _) _).setCell (Nat.le_refl _) _).setCell (Nat.le_refl _) _).alloc (by simp; omega) _) HG3.out (by simp; omega) (fun g hg => by have := HLO.out g hg; omega)
        · simp only [lenOf]; have h1 := HL2.out; have h2 := HRs.out.2.2.2; have h3 := Hl.out; omega
      · have kS : KeepsOn (Apart P w.heap.size u4) w2 _ := ((((KeepsOn.refl _ _).setCell (p := ⟨w.heap.size, 0, none⟩) (fun b hb => hb.2.1) (.string key)).setCell (p := ⟨w.heap.size, 1, none⟩) (fun b hb => hb.2.1) (.int .u64 i2)).setCell (p := ⟨w.heap.size, 2, none⟩) (fun b hb => hb.2.1) (.iface ty u2)).alloc (.cells #[.string key, .int .u64 i2, .iface ty u2] 111)
        have kW := kS.trans (keepsOn_of_grown HG3.out (fun b hb => hb.2.2))
        have hQ : ∀ b, Apart P w.heap.size u4 b → b < w2.heap.size → Apart P w.heap.size (.slice (some ⟨g, 0, none⟩) (n + 1) cap3) b := by
          intro b hb hlt
          refine ⟨hb.1, hb.2.1, fun e => ?_⟩
          have e : some b = some g := e
          rcases HA3.out with h | h
          · exact hb.2.2 (e.trans h.symm)
          · injection e with e
            simp at h
            omega
        refine ⟨⟨r2, A2, len2, cap2, SAttrs.snoc acc key (valueOf none d), n + 1, _, rfl, HA2.out.1.turn kW hQ, HA2.out.2, HO3.out, rsx_snocP (RSX.turn (keepsOn_of_below HBr.out _) (fun _ h _ => h) _ _ HX.out) HR2.out kS HG3.out (fun b hb => hb.2.2) hQ, ?_, ?_, HRs.out.1, HRs.out.2.1, HRs.out.2.2.1, varbox_next hl2 g0 g1 g2 n0 n1 n2 HG3.out (fun e => by have := HLO.out _ e.symm; omega), ?_, ?_⟩, ?_⟩
        · rw [ssnoc_append]; exact Hend.out
        · rw [slen_snoc]; have := HRs.out.2.2.2; omega
        · have := HG3.out.size; simp at this; omega
        · exact Below.grown ((((HB2.out.setCell (Nat.le_refl _) _).setCell (Nat.le_refl _) _).setCell (Nat.le_refl _) _).alloc (by simp; omega) _) HG3.out (by simp; omega) (fun g hg => by have := HLO.out g hg; omega)
        · simp only [lenOf]; have h1 := HL2.out; have h2 := HRs.out.2.2.2; have h3 := Hl.out; omega

set_option maxRecDepth 100000 in
set_option maxHeartbeats 2000000 in
/-- slog.Group. -/
theorem sGroup_any {P : Nat → Prop} (key : ByteArray) (l : List GArg) (w : World) (A : Option Addr) (len cap : Nat) (h : RAnyS P w l A len) (hlc : len ≤ cap) (hok : argsOk l) (hwf : argsWf l) (hp : pairsOk l) (hlen : l.length ≤ 300000)
    (hsl : (rcRaw l).len ≤ 300000) (hP : ∀ b, w.heap.size ≤ b → P b) : Calls Tryz.prog 104 #[.string key, .slice A len cap] w (SAtPost P key (attrsOf none (rcRaw l)).full w) := by
  unfold SAtPost
  have Hh := Lib.hid (fun wx hx => h.turn (Q := fun b => (P b ∧ b < w.heap.size) ∨ w.heap.size + 1 ≤ b) (w' := wx) hx (fun b hb hlt => .inl ⟨hb, hlt⟩))
  have HP := Lib.hid hP
  have HT := Lib.hid (fun P wx h hP => toSlice_any (P := P) l wx A len cap h hlc hok hwf hp hlen hP)
  have HL := Lib.hid (show (attrsOf none (rcRaw l)).len ≤ 300000 by rw [slen_attrsOf]; exact hsl)
  clear h hP hok hwf hp hlen hsl
  generalize attrsOf none (rcRaw l) = L at HT HL ⊢
  unfold SlPost at HT
  go_enter Tryz.func104, Tryz.ntmps104
  go_wp2_with (first
    | (go_at_call 119; refine (HT.out (fun b => (P b ∧ b < w.heap.size) ∨ w.heap.size + 1 ≤ b) _ (Hh.out _ ((keeps_of_below (show Below w.heap.size w _ from (by repeat' (first | with_reducible assumption | with_reducible exact Below.refl _ _ | with_reducible refine Below.setCell ?_ ?_ _ | with_reducible refine Below.alloc ?_ ?_ _ | with_reducible refine Below.drew ?_ | with_reducible refine below_drewN ?_ _ | omega | (simp; done) | (simp; omega))))).on _)) (fun b hb => .inr (by simp at hb; omega))).mono ?_; rintro e w2 ⟨A2, len2, cap2, rfl, hr2, hb2⟩; have HR2 := Lib.hid hr2; clear hr2; have hB2 := keeps_below (show Below w.heap.size w _ from (by repeat' (first | with_reducible assumption | with_reducible exact Below.refl _ _ | with_reducible refine Below.setCell ?_ ?_ _ | with_reducible refine Below.alloc ?_ ?_ _ | with_reducible refine Below.drew ?_ | with_reducible refine below_drewN ?_ _ | omega | (simp; done) | (simp; omega)))) hb2; obtain ⟨hc2, hf2⟩ := bcell hb2; have hs2 := hb2.size; (try simp at hs2); have hl2 : w.heap.size < w2.heap.size := (by omega))
    | (go_at_call 131; refine (groupValue_any (P := fun b => (P b ∧ b < w.heap.size) ∨ w.heap.size + 1 ≤ b) L _ A2 len2 cap2 HR2.out (by have h1 := HR2.out.1; have h2 := HL.out; omega) (fun b hb => .inr (by omega))).mono ?_; rintro e w3 ⟨x3, y3, rfl, hr3, hb3⟩; have hr4 : ∃ A3 len3 cap3, x3 = .int .u64 (len3 : Nat) ∧ y3 = .iface 245 (.slice A3 len3 cap3) ∧ RSS (fun b => (P b ∧ b < w.heap.size) ∨ w.heap.size + 1 ≤ b) w3 L.full A3 len3 := (by unfold RSV at hr3; exact hr3); obtain ⟨A3, len3, cap3, rfl, rfl, hr5⟩ := hr4; have HR3 := Lib.hid hr5; clear hr3 hr5; have hB3 := keeps_below (show Below w.heap.size w _ from (by repeat' (first | with_reducible assumption | with_reducible exact Below.refl _ _ | with_reducible refine Below.setCell ?_ ?_ _ | with_reducible refine Below.alloc ?_ ?_ _ | with_reducible refine Below.drew ?_ | with_reducible refine below_drewN ?_ _ | omega | (simp; done) | (simp; omega)))) hb3; obtain ⟨hc3, hf3⟩ := bcell hb3; have hs3 := hb3.size; (try simp at hs3); have hl3 : w.heap.size < w3.heap.size := (by omega)))
  exact bodyPost_ret (v := .agg #[.string key, .int .u64 len3, .iface 245 (.slice A3 len3 cap3)]) (by simp [results, Tryz.results104, go_sem, hc2, hf2, hl2, hc3, hf3, hl3]) rfl ⟨_, _, _, rfl, HR3.out.turn (by repeat' (first | with_reducible assumption | with_reducible exact KeepsOn.refl _ _ | with_reducible refine KeepsOn.setCell ?_ ?_ _ | with_reducible refine KeepsOn.alloc ?_ _ | with_reducible refine KeepsOn.drew ?_ | (intro b hb; simp at hb ⊢; omega) | (rintro b ⟨_, hb⟩; simp at hb ⊢; omega) | (rintro b ⟨_, hb⟩; omega))) (fun b hb _ => by rcases hb with h | h; exact h.1; exact HP.out b (by omega)), (by repeat' (first | with_reducible assumption | with_reducible exact Below.refl _ _ | with_reducible refine Below.setCell ?_ ?_ _ | with_reducible refine Below.alloc ?_ ?_ _ | with_reducible refine Below.drew ?_ | with_reducible refine below_drewN ?_ _ | omega | (simp; done) | (simp; omega)))⟩

end Go.Proofs.YtihhgnbgejjijaaGreatDoor.Va

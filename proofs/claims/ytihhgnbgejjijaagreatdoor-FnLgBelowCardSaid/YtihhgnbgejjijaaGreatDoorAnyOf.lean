/- What package slog makes of a Go value of any type (AnyValue): the walk. -/
import Derived.Test.YtihhgnbgejjijaaGreatDoorMake
import Derived.Test.YtihhgnbgejjijaaGreatDoorTidyC
import Derived.Lib.ConvBytes
import Derived.Deep.RegionHeld3
namespace Go.Proofs.YtihhgnbgejjijaaGreatDoor.Va
set_option linter.unusedVariables false
set_option linter.unusedSimpArgs false
open Go Go.RowKit

/-- A Go value of any type, as it is handed to AnyValue. -/
def RRaw (P : Nat → Prop) (w : World) : GAny → Value → Prop
  | .kind n, v => v = .iface 198 (.int .i64 n)
  | g, v => RAny P w g v

set_option maxRecDepth 100000 in
set_option maxHeartbeats 400000 in
/-- slog.AnyValue, of values that it keeps. -/
theorem anyValue_any {P : Nat → Prop} (g : GAny) (w : World) (v : Value) (h : RRaw P w g v) :
    Calls Tryz.prog 100 #[v] w fun e w' => ∃ v', e = .returned (.agg #[.int .u64 0, v']) ∧ RAny P w' g v' ∧ Below w.heap.size w w' := by
  cases g with
  | kind n =>
    simp only [RRaw] at h
    subst h
    go_enter Tryz.func100, Tryz.ntmps100
    go_wp2
    exact bodyPost_ret (v := .agg #[.int .u64 0, .iface 239 (.int .i64 n)]) (by simp [results, Tryz.results100, go_sem]) rfl ⟨_, rfl, rfl, (by repeat' (first | with_reducible assumption | with_reducible exact Below.refl _ _ | with_reducible refine Below.setCell ?_ ?_ _ | with_reducible refine Below.alloc ?_ ?_ _ | with_reducible refine Below.drew ?_ | with_reducible refine below_drewN ?_ _ | omega | (simp; done) | (simp; omega)))⟩
  | bytes s =>
    simp only [RRaw] at h
    have H := Lib.hid h
    obtain ⟨A, len, cap, rfl, h'⟩ := h
    clear h'
    go_enter Tryz.func100, Tryz.ntmps100
    go_wp2
    exact bodyPost_ret (v := .agg #[.int .u64 0, .iface 219 (.slice A len cap)]) (by simp [results, Tryz.results100, go_sem]) rfl ⟨_, rfl, H.out.turn (keepsOn_of_below (by repeat' (first | with_reducible assumption | with_reducible exact Below.refl _ _ | with_reducible refine Below.setCell ?_ ?_ _ | with_reducible refine Below.alloc ?_ ?_ _ | with_reducible refine Below.drew ?_ | with_reducible refine below_drewN ?_ _ | omega | (simp; done) | (simp; omega))) P) (fun _ h _ => h), (by repeat' (first | with_reducible assumption | with_reducible exact Below.refl _ _ | with_reducible refine Below.setCell ?_ ?_ _ | with_reducible refine Below.alloc ?_ ?_ _ | with_reducible refine Below.drew ?_ | with_reducible refine below_drewN ?_ _ | omega | (simp; done) | (simp; omega)))⟩
  | source f s n =>
    simp only [RRaw] at h
    have H := Lib.hid h
    obtain ⟨b, rfl, h'⟩ := h
    clear h'
    go_enter Tryz.func100, Tryz.ntmps100
    go_wp2
    exact bodyPost_ret (v := .agg #[.int .u64 0, .iface 106 (.pointer (some ⟨b, 0, none⟩))]) (by simp [results, Tryz.results100, go_sem]) rfl ⟨_, rfl, H.out.turn (keepsOn_of_below (by repeat' (first | with_reducible assumption | with_reducible exact Below.refl _ _ | with_reducible refine Below.setCell ?_ ?_ _ | with_reducible refine Below.alloc ?_ ?_ _ | with_reducible refine Below.drew ?_ | with_reducible refine below_drewN ?_ _ | omega | (simp; done) | (simp; omega))) P) (fun _ h _ => h), (by repeat' (first | with_reducible assumption | with_reducible exact Below.refl _ _ | with_reducible refine Below.setCell ?_ ?_ _ | with_reducible refine Below.alloc ?_ ?_ _ | with_reducible refine Below.drew ?_ | with_reducible refine below_drewN ?_ _ | omega | (simp; done) | (simp; omega)))⟩
  | nil  =>
    simp only [RRaw, RAny] at h
    subst h
    go_enter Tryz.func100, Tryz.ntmps100
    go_wp2
    exact bodyPost_ret (v := .agg #[.int .u64 0, .nilIface]) (by simp [results, Tryz.results100, go_sem]) rfl ⟨_, rfl, rfl, (by repeat' (first | with_reducible assumption | with_reducible exact Below.refl _ _ | with_reducible refine Below.setCell ?_ ?_ _ | with_reducible refine Below.alloc ?_ ?_ _ | with_reducible refine Below.drew ?_ | with_reducible refine below_drewN ?_ _ | omega | (simp; done) | (simp; omega)))⟩
  | err s =>
    simp only [RRaw, RAny] at h
    subst h
    go_enter Tryz.func100, Tryz.ntmps100
    go_wp2
    exact bodyPost_ret (v := .agg #[.int .u64 0, .iface 217 (.agg #[.string s])]) (by simp [results, Tryz.results100, go_sem]) rfl ⟨_, rfl, rfl, (by repeat' (first | with_reducible assumption | with_reducible exact Below.refl _ _ | with_reducible refine Below.setCell ?_ ?_ _ | with_reducible refine Below.alloc ?_ ?_ _ | with_reducible refine Below.drew ?_ | with_reducible refine below_drewN ?_ _ | omega | (simp; done) | (simp; omega)))⟩
  | stringer s =>
    simp only [RRaw, RAny] at h
    subst h
    go_enter Tryz.func100, Tryz.ntmps100
    go_wp2
    exact bodyPost_ret (v := .agg #[.int .u64 0, .iface 218 (.agg #[.string s])]) (by simp [results, Tryz.results100, go_sem]) rfl ⟨_, rfl, rfl, (by repeat' (first | with_reducible assumption | with_reducible exact Below.refl _ _ | with_reducible refine Below.setCell ?_ ?_ _ | with_reducible refine Below.alloc ?_ ?_ _ | with_reducible refine Below.drew ?_ | with_reducible refine below_drewN ?_ _ | omega | (simp; done) | (simp; omega)))⟩
  | text s =>
    simp only [RRaw, RAny] at h
    subst h
    go_enter Tryz.func100, Tryz.ntmps100
    go_wp2
    exact bodyPost_ret (v := .agg #[.int .u64 0, .iface 220 (.agg #[.string s])]) (by simp [results, Tryz.results100, go_sem]) rfl ⟨_, rfl, rfl, (by repeat' (first | with_reducible assumption | with_reducible exact Below.refl _ _ | with_reducible refine Below.setCell ?_ ?_ _ | with_reducible refine Below.alloc ?_ ?_ _ | with_reducible refine Below.drew ?_ | with_reducible refine below_drewN ?_ _ | omega | (simp; done) | (simp; omega)))⟩
  | fails s =>
    simp only [RRaw, RAny] at h
    subst h
    go_enter Tryz.func100, Tryz.ntmps100
    go_wp2
    exact bodyPost_ret (v := .agg #[.int .u64 0, .iface 221 (.agg #[.string s])]) (by simp [results, Tryz.results100, go_sem]) rfl ⟨_, rfl, rfl, (by repeat' (first | with_reducible assumption | with_reducible exact Below.refl _ _ | with_reducible refine Below.setCell ?_ ?_ _ | with_reducible refine Below.alloc ?_ ?_ _ | with_reducible refine Below.drew ?_ | with_reducible refine below_drewN ?_ _ | omega | (simp; done) | (simp; omega)))⟩
  | number n =>
    simp only [RRaw, RAny] at h
    subst h
    go_enter Tryz.func100, Tryz.ntmps100
    go_wp2
    exact bodyPost_ret (v := .agg #[.int .u64 0, .iface 222 (.int .i64 n)]) (by simp [results, Tryz.results100, go_sem]) rfl ⟨_, rfl, rfl, (by repeat' (first | with_reducible assumption | with_reducible exact Below.refl _ _ | with_reducible refine Below.setCell ?_ ?_ _ | with_reducible refine Below.alloc ?_ ?_ _ | with_reducible refine Below.drew ?_ | with_reducible refine below_drewN ?_ _ | omega | (simp; done) | (simp; omega)))⟩
  | level n =>
    simp only [RRaw, RAny] at h
    subst h
    go_enter Tryz.func100, Tryz.ntmps100
    go_wp2
    exact bodyPost_ret (v := .agg #[.int .u64 0, .iface 97 (.int .i64 n)]) (by simp [results, Tryz.results100, go_sem]) rfl ⟨_, rfl, rfl, (by repeat' (first | with_reducible assumption | with_reducible exact Below.refl _ _ | with_reducible refine Below.setCell ?_ ?_ _ | with_reducible refine Below.alloc ?_ ?_ _ | with_reducible refine Below.drew ?_ | with_reducible refine below_drewN ?_ _ | omega | (simp; done) | (simp; omega)))⟩
  | appender s t =>
    simp only [RRaw, RAny] at h
    subst h
    go_enter Tryz.func100, Tryz.ntmps100
    go_wp2
    exact bodyPost_ret (v := .agg #[.int .u64 0, .iface 224 (.agg #[.string s, .string t])]) (by simp [results, Tryz.results100, go_sem]) rfl ⟨_, rfl, rfl, (by repeat' (first | with_reducible assumption | with_reducible exact Below.refl _ _ | with_reducible refine Below.setCell ?_ ?_ _ | with_reducible refine Below.alloc ?_ ?_ _ | with_reducible refine Below.drew ?_ | with_reducible refine below_drewN ?_ _ | omega | (simp; done) | (simp; omega)))⟩
  | lacks s =>
    simp only [RRaw, RAny] at h
    subst h
    go_enter Tryz.func100, Tryz.ntmps100
    go_wp2
    exact bodyPost_ret (v := .agg #[.int .u64 0, .iface 225 (.agg #[.string s])]) (by simp [results, Tryz.results100, go_sem]) rfl ⟨_, rfl, rfl, (by repeat' (first | with_reducible assumption | with_reducible exact Below.refl _ _ | with_reducible refine Below.setCell ?_ ?_ _ | with_reducible refine Below.alloc ?_ ?_ _ | with_reducible refine Below.drew ?_ | with_reducible refine below_drewN ?_ _ | omega | (simp; done) | (simp; omega)))⟩
  | panics s =>
    simp only [RRaw, RAny] at h
    subst h
    go_enter Tryz.func100, Tryz.ntmps100
    go_wp2
    exact bodyPost_ret (v := .agg #[.int .u64 0, .iface 226 (.agg #[.string s])]) (by simp [results, Tryz.results100, go_sem]) rfl ⟨_, rfl, rfl, (by repeat' (first | with_reducible assumption | with_reducible exact Below.refl _ _ | with_reducible refine Below.setCell ?_ ?_ _ | with_reducible refine Below.alloc ?_ ?_ _ | with_reducible refine Below.drew ?_ | with_reducible refine below_drewN ?_ _ | omega | (simp; done) | (simp; omega)))⟩
  | pointer  =>
    simp only [RRaw, RAny] at h
    subst h
    go_enter Tryz.func100, Tryz.ntmps100
    go_wp2
    exact bodyPost_ret (v := .agg #[.int .u64 0, .iface 227 (.pointer none)]) (by simp [results, Tryz.results100, go_sem]) rfl ⟨_, rfl, rfl, (by repeat' (first | with_reducible assumption | with_reducible exact Below.refl _ _ | with_reducible refine Below.setCell ?_ ?_ _ | with_reducible refine Below.alloc ?_ ?_ _ | with_reducible refine Below.drew ?_ | with_reducible refine below_drewN ?_ _ | omega | (simp; done) | (simp; omega)))⟩
  | nosource  =>
    simp only [RRaw, RAny] at h
    subst h
    go_enter Tryz.func100, Tryz.ntmps100
    go_wp2
    exact bodyPost_ret (v := .agg #[.int .u64 0, .iface 106 (.pointer none)]) (by simp [results, Tryz.results100, go_sem]) rfl ⟨_, rfl, rfl, (by repeat' (first | with_reducible assumption | with_reducible exact Below.refl _ _ | with_reducible refine Below.setCell ?_ ?_ _ | with_reducible refine Below.alloc ?_ ?_ _ | with_reducible refine Below.drew ?_ | with_reducible refine below_drewN ?_ _ | omega | (simp; done) | (simp; omega)))⟩
  | both s t =>
    simp only [RRaw, RAny] at h
    subst h
    go_enter Tryz.func100, Tryz.ntmps100
    go_wp2
    exact bodyPost_ret (v := .agg #[.int .u64 0, .iface 229 (.agg #[.string s, .string t])]) (by simp [results, Tryz.results100, go_sem]) rfl ⟨_, rfl, rfl, (by repeat' (first | with_reducible assumption | with_reducible exact Below.refl _ _ | with_reducible refine Below.setCell ?_ ?_ _ | with_reducible refine Below.alloc ?_ ?_ _ | with_reducible refine Below.drew ?_ | with_reducible refine below_drewN ?_ _ | omega | (simp; done) | (simp; omega)))⟩
  | made s => simp only [RRaw, RAny] at h

set_option maxRecDepth 100000 in
set_option maxHeartbeats 400000 in
theorem anyValue_valuer (n : Int) (x y : Value) (c : Option Addr) (w : World) :
    Calls Tryz.prog 100 #[.iface 196 (.agg #[.int .u64 n, x, y, .pointer c])] w fun e w' => e = .returned (.agg #[.int .u64 0, .iface 196 (.agg #[.int .u64 n, x, y, .pointer c])]) ∧ Below w.heap.size w w' := by
  go_enter Tryz.func100, Tryz.ntmps100
  go_wp2
  exact bodyPost_ret (v := .agg #[.int .u64 0, .iface 196 (.agg #[.int .u64 n, x, y, .pointer c])]) (by simp [results, Tryz.results100, go_sem]) rfl ⟨rfl, (by repeat' (first | with_reducible assumption | with_reducible exact Below.refl _ _ | with_reducible refine Below.setCell ?_ ?_ _ | with_reducible refine Below.alloc ?_ ?_ _ | with_reducible refine Below.drew ?_ | with_reducible refine below_drewN ?_ _ | omega | (simp; done) | (simp; omega)))⟩

set_option maxRecDepth 100000 in
set_option maxHeartbeats 400000 in
theorem anyValue_throws (s : ByteArray) (c : Option Addr) (w : World) :
    Calls Tryz.prog 100 #[.iface 194 (.agg #[.string s, .pointer c])] w fun e w' => e = .returned (.agg #[.int .u64 0, .iface 194 (.agg #[.string s, .pointer c])]) ∧ Below w.heap.size w w' := by
  go_enter Tryz.func100, Tryz.ntmps100
  go_wp2
  exact bodyPost_ret (v := .agg #[.int .u64 0, .iface 194 (.agg #[.string s, .pointer c])]) (by simp [results, Tryz.results100, go_sem]) rfl ⟨rfl, (by repeat' (first | with_reducible assumption | with_reducible exact Below.refl _ _ | with_reducible refine Below.setCell ?_ ?_ _ | with_reducible refine Below.alloc ?_ ?_ _ | with_reducible refine Below.drew ?_ | with_reducible refine below_drewN ?_ _ | omega | (simp; done) | (simp; omega)))⟩

end Go.Proofs.YtihhgnbgejjijaaGreatDoor.Va

/- The Go value of any type that a Val stands for (impl.anyOf, impl.extra): the walks. -/
namespace Go.Proofs.YtihhgnbgejjijaaGreatDoor.Va
set_option linter.unusedVariables false
set_option linter.unusedSimpArgs false
open Go Go.RowKit

set_option maxRecDepth 100000 in
set_option maxHeartbeats 400000 in
/-- impl.extra. -/
theorem extra_any (d : GVal) (w : World) (A : Option Addr) (len cap : Nat) (h : RS w d.l A len) :
    Calls Tryz.prog 162 #[vVal d A len cap] w fun e w' => e = .returned (.string d.l.head) ∧ Below w.heap.size w w' := by
  obtain ⟨k, n, s, t, l⟩ := d
  simp only [vVal, kind_mk, n_mk, s_mk, t_mk, l_mk] at h ⊢
  obtain ⟨h0, h1⟩ := h
  cases l with
  | nil =>
    have : len = 0 := h0
    subst this
    clear h0 h1
    go_enter Tryz.func162, Tryz.ntmps162
    go_wp2
    go_ret
    exact ⟨rfl, (by repeat' (first | with_reducible assumption | with_reducible exact Below.refl _ _ | with_reducible refine Below.setCell ?_ ?_ _ | with_reducible refine Below.alloc ?_ ?_ _ | with_reducible refine Below.drew ?_ | with_reducible refine below_drewN ?_ _ | omega | (simp; done) | (simp; omega)))⟩
  | cons k v r =>
    have hp : 0 < len := by simp only [GAttrs.len] at h0; omega
    obtain ⟨b, o, rfl, hr⟩ := h1 hp
    unfold RAs at hr
    have hk := hr.1
    have hb : b < w.heap.size := World.block_lt_of_cell? w _ hk
    have hne : (0 : Int) < (len : Int) := by omega
    clear h1 hr h0
    go_enter Tryz.func162, Tryz.ntmps162
    go_wp2
    go_ret
    exact ⟨rfl, (by repeat' (first | with_reducible assumption | with_reducible exact Below.refl _ _ | with_reducible refine Below.setCell ?_ ?_ _ | with_reducible refine Below.alloc ?_ ?_ _ | with_reducible refine Below.drew ?_ | with_reducible refine below_drewN ?_ _ | omega | (simp; done) | (simp; omega)))⟩

theorem below_bytes {B : Nat} {a w : World} (h : Below B a w) (hB : B ≤ w.heap.size) (e : TypeId) (s : ByteArray) : Below B a (Lib.bytesWorld w e s) :=
  ⟨by rw [← h.os]; simp [Lib.bytesWorld, World.freeze]; rfl, by rw [← h.tape]; simp [Lib.bytesWorld, World.freeze], by rw [← h.output]; simp [Lib.bytesWorld, World.freeze]; rfl, by rw [Lib.bytesWorld_size]; have := h.size; omega,
    fun k hk => (Lib.bytesWorld_at_old w e s k (by omega)).trans (h.block k hk)⟩

/-- What impl.anyOf hands back. -/
def AnyPost (g : GAny) (w : World) (e : Ending) (w' : World) : Prop := ∃ v, e = .returned v ∧ RRaw (New w) w' g v ∧ Below w.heap.size w w'

section
variable (k0 n : Int) (s : ByteArray) (t : GTime) (l : GAttrs) (w : World) (A : Option Addr) (len cap : Nat)

set_option maxRecDepth 100000 in
set_option maxHeartbeats 400000 in
theorem anyOf_1 : Calls Tryz.prog 132 #[.agg #[.int .i64 k0, .int .u64 1, .string s, .int .i64 t.sec, .int .i64 t.nsec, .int .i64 t.off, .slice A len cap]] w (AnyPost (.err s) w) := by
  unfold AnyPost
  go_enter Tryz.func132, Tryz.ntmps132
  go_wp2
  go_ret
  exact ⟨_, rfl, rfl, (by repeat' (first | with_reducible assumption | with_reducible exact Below.refl _ _ | with_reducible refine Below.setCell ?_ ?_ _ | with_reducible refine Below.alloc ?_ ?_ _ | with_reducible refine Below.drew ?_ | with_reducible refine below_drewN ?_ _ | omega | (simp; done) | (simp; omega)))⟩

set_option maxRecDepth 100000 in
set_option maxHeartbeats 400000 in
theorem anyOf_2 : Calls Tryz.prog 132 #[.agg #[.int .i64 k0, .int .u64 2, .string s, .int .i64 t.sec, .int .i64 t.nsec, .int .i64 t.off, .slice A len cap]] w (AnyPost (.stringer s) w) := by
  unfold AnyPost
  go_enter Tryz.func132, Tryz.ntmps132
  go_wp2
  go_ret
  exact ⟨_, rfl, rfl, (by repeat' (first | with_reducible assumption | with_reducible exact Below.refl _ _ | with_reducible refine Below.setCell ?_ ?_ _ | with_reducible refine Below.alloc ?_ ?_ _ | with_reducible refine Below.drew ?_ | with_reducible refine below_drewN ?_ _ | omega | (simp; done) | (simp; omega)))⟩

set_option maxRecDepth 100000 in
set_option maxHeartbeats 400000 in
theorem anyOf_4 : Calls Tryz.prog 132 #[.agg #[.int .i64 k0, .int .u64 4, .string s, .int .i64 t.sec, .int .i64 t.nsec, .int .i64 t.off, .slice A len cap]] w (AnyPost (.text s) w) := by
  unfold AnyPost
  go_enter Tryz.func132, Tryz.ntmps132
  go_wp2
  go_ret
  exact ⟨_, rfl, rfl, (by repeat' (first | with_reducible assumption | with_reducible exact Below.refl _ _ | with_reducible refine Below.setCell ?_ ?_ _ | with_reducible refine Below.alloc ?_ ?_ _ | with_reducible refine Below.drew ?_ | with_reducible refine below_drewN ?_ _ | omega | (simp; done) | (simp; omega)))⟩

set_option maxRecDepth 100000 in
set_option maxHeartbeats 400000 in
theorem anyOf_5 : Calls Tryz.prog 132 #[.agg #[.int .i64 k0, .int .u64 5, .string s, .int .i64 t.sec, .int .i64 t.nsec, .int .i64 t.off, .slice A len cap]] w (AnyPost (.fails s) w) := by
  unfold AnyPost
  go_enter Tryz.func132, Tryz.ntmps132
  go_wp2
  go_ret
  exact ⟨_, rfl, rfl, (by repeat' (first | with_reducible assumption | with_reducible exact Below.refl _ _ | with_reducible refine Below.setCell ?_ ?_ _ | with_reducible refine Below.alloc ?_ ?_ _ | with_reducible refine Below.drew ?_ | with_reducible refine below_drewN ?_ _ | omega | (simp; done) | (simp; omega)))⟩

set_option maxRecDepth 100000 in
set_option maxHeartbeats 400000 in
theorem anyOf_6 : Calls Tryz.prog 132 #[.agg #[.int .i64 k0, .int .u64 6, .string s, .int .i64 t.sec, .int .i64 t.nsec, .int .i64 t.off, .slice A len cap]] w (AnyPost (.number t.sec) w) := by
  unfold AnyPost
  go_enter Tryz.func132, Tryz.ntmps132
  go_wp2
  go_ret
  exact ⟨_, rfl, rfl, (by repeat' (first | with_reducible assumption | with_reducible exact Below.refl _ _ | with_reducible refine Below.setCell ?_ ?_ _ | with_reducible refine Below.alloc ?_ ?_ _ | with_reducible refine Below.drew ?_ | with_reducible refine below_drewN ?_ _ | omega | (simp; done) | (simp; omega)))⟩

set_option maxRecDepth 100000 in
set_option maxHeartbeats 400000 in
theorem anyOf_7 : Calls Tryz.prog 132 #[.agg #[.int .i64 k0, .int .u64 7, .string s, .int .i64 t.sec, .int .i64 t.nsec, .int .i64 t.off, .slice A len cap]] w (AnyPost (.level t.sec) w) := by
  unfold AnyPost
  go_enter Tryz.func132, Tryz.ntmps132
  go_wp2
  go_ret
  exact ⟨_, rfl, rfl, (by repeat' (first | with_reducible assumption | with_reducible exact Below.refl _ _ | with_reducible refine Below.setCell ?_ ?_ _ | with_reducible refine Below.alloc ?_ ?_ _ | with_reducible refine Below.drew ?_ | with_reducible refine below_drewN ?_ _ | omega | (simp; done) | (simp; omega)))⟩

set_option maxRecDepth 100000 in
set_option maxHeartbeats 400000 in
theorem anyOf_8 : Calls Tryz.prog 132 #[.agg #[.int .i64 k0, .int .u64 8, .string s, .int .i64 t.sec, .int .i64 t.nsec, .int .i64 t.off, .slice A len cap]] w (AnyPost (.kind t.sec) w) := by
  unfold AnyPost
  go_enter Tryz.func132, Tryz.ntmps132
  go_wp2
  go_ret
  exact ⟨_, rfl, rfl, (by repeat' (first | with_reducible assumption | with_reducible exact Below.refl _ _ | with_reducible refine Below.setCell ?_ ?_ _ | with_reducible refine Below.alloc ?_ ?_ _ | with_reducible refine Below.drew ?_ | with_reducible refine below_drewN ?_ _ | omega | (simp; done) | (simp; omega)))⟩

set_option maxRecDepth 100000 in
set_option maxHeartbeats 400000 in
theorem anyOf_9 : Calls Tryz.prog 132 #[.agg #[.int .i64 k0, .int .u64 9, .string s, .int .i64 t.sec, .int .i64 t.nsec, .int .i64 t.off, .slice A len cap]] w (AnyPost (.appender s s) w) := by
  unfold AnyPost
  go_enter Tryz.func132, Tryz.ntmps132
  go_wp2
  go_ret
  exact ⟨_, rfl, rfl, (by repeat' (first | with_reducible assumption | with_reducible exact Below.refl _ _ | with_reducible refine Below.setCell ?_ ?_ _ | with_reducible refine Below.alloc ?_ ?_ _ | with_reducible refine Below.drew ?_ | with_reducible refine below_drewN ?_ _ | omega | (simp; done) | (simp; omega)))⟩

set_option maxRecDepth 100000 in
set_option maxHeartbeats 400000 in
theorem anyOf_10 : Calls Tryz.prog 132 #[.agg #[.int .i64 k0, .int .u64 10, .string s, .int .i64 t.sec, .int .i64 t.nsec, .int .i64 t.off, .slice A len cap]] w (AnyPost (.lacks s) w) := by
  unfold AnyPost
  go_enter Tryz.func132, Tryz.ntmps132
  go_wp2
  go_ret
  exact ⟨_, rfl, rfl, (by repeat' (first | with_reducible assumption | with_reducible exact Below.refl _ _ | with_reducible refine Below.setCell ?_ ?_ _ | with_reducible refine Below.alloc ?_ ?_ _ | with_reducible refine Below.drew ?_ | with_reducible refine below_drewN ?_ _ | omega | (simp; done) | (simp; omega)))⟩

set_option maxRecDepth 100000 in
set_option maxHeartbeats 400000 in
theorem anyOf_11 : Calls Tryz.prog 132 #[.agg #[.int .i64 k0, .int .u64 11, .string s, .int .i64 t.sec, .int .i64 t.nsec, .int .i64 t.off, .slice A len cap]] w (AnyPost (.panics s) w) := by
  unfold AnyPost
  go_enter Tryz.func132, Tryz.ntmps132
  go_wp2
  go_ret
  exact ⟨_, rfl, rfl, (by repeat' (first | with_reducible assumption | with_reducible exact Below.refl _ _ | with_reducible refine Below.setCell ?_ ?_ _ | with_reducible refine Below.alloc ?_ ?_ _ | with_reducible refine Below.drew ?_ | with_reducible refine below_drewN ?_ _ | omega | (simp; done) | (simp; omega)))⟩

set_option maxRecDepth 100000 in
set_option maxHeartbeats 400000 in
theorem anyOf_12 : Calls Tryz.prog 132 #[.agg #[.int .i64 k0, .int .u64 12, .string s, .int .i64 t.sec, .int .i64 t.nsec, .int .i64 t.off, .slice A len cap]] w (AnyPost (.pointer) w) := by
  unfold AnyPost
  go_enter Tryz.func132, Tryz.ntmps132
  go_wp2
  go_ret
  exact ⟨_, rfl, rfl, (by repeat' (first | with_reducible assumption | with_reducible exact Below.refl _ _ | with_reducible refine Below.setCell ?_ ?_ _ | with_reducible refine Below.alloc ?_ ?_ _ | with_reducible refine Below.drew ?_ | with_reducible refine below_drewN ?_ _ | omega | (simp; done) | (simp; omega)))⟩

set_option maxRecDepth 100000 in
set_option maxHeartbeats 400000 in
theorem anyOf_14 : Calls Tryz.prog 132 #[.agg #[.int .i64 k0, .int .u64 14, .string s, .int .i64 t.sec, .int .i64 t.nsec, .int .i64 t.off, .slice A len cap]] w (AnyPost (.nosource) w) := by
  unfold AnyPost
  go_enter Tryz.func132, Tryz.ntmps132
  go_wp2
  go_ret
  exact ⟨_, rfl, rfl, (by repeat' (first | with_reducible assumption | with_reducible exact Below.refl _ _ | with_reducible refine Below.setCell ?_ ?_ _ | with_reducible refine Below.alloc ?_ ?_ _ | with_reducible refine Below.drew ?_ | with_reducible refine below_drewN ?_ _ | omega | (simp; done) | (simp; omega)))⟩

set_option maxRecDepth 100000 in
set_option maxHeartbeats 400000 in
theorem anyOf_none (h1 : ¬ n = 1) (h2 : ¬ n = 2) (h3 : ¬ n = 3) (h4 : ¬ n = 4) (h5 : ¬ n = 5) (h6 : ¬ n = 6) (h7 : ¬ n = 7) (h8 : ¬ n = 8) (h9 : ¬ n = 9) (h10 : ¬ n = 10) (h11 : ¬ n = 11) (h12 : ¬ n = 12) (h13 : ¬ n = 13) (h14 : ¬ n = 14) (h15 : ¬ n = 15) : Calls Tryz.prog 132 #[.agg #[.int .i64 k0, .int .u64 n, .string s, .int .i64 t.sec, .int .i64 t.nsec, .int .i64 t.off, .slice A len cap]] w (AnyPost (.nil) w) := by
  unfold AnyPost
  go_enter Tryz.func132, Tryz.ntmps132
  go_wp2
  go_ret
  exact ⟨_, rfl, rfl, (by repeat' (first | with_reducible assumption | with_reducible exact Below.refl _ _ | with_reducible refine Below.setCell ?_ ?_ _ | with_reducible refine Below.alloc ?_ ?_ _ | with_reducible refine Below.drew ?_ | with_reducible refine below_drewN ?_ _ | omega | (simp; done) | (simp; omega)))⟩

set_option maxRecDepth 100000 in
set_option maxHeartbeats 400000 in
theorem anyOf_3 : Calls Tryz.prog 132 #[.agg #[.int .i64 k0, .int .u64 3, .string s, .int .i64 t.sec, .int .i64 t.nsec, .int .i64 t.off, .slice A len cap]] w (AnyPost (.bytes s) w) := by
  unfold AnyPost
  have hcv : ∀ (s : ByteArray) (w : World), (convert 9 219 (.string s)).run Tryz.prog w = .ok (.slice (some ⟨w.heap.size, 0, none⟩) s.size (grownCap w s.size 0 5)) (Lib.bytesWorld w 5 s) := fun s w =>
    Lib.run_convert_string_bytes w 9 219 5 s Tryz.underlying9 Tryz.underlying219 Tryz.underlying5
  go_enter Tryz.func132, Tryz.ntmps132
  go_wp2
  go_ret
  refine ⟨_, rfl, ⟨_, _, _, rfl, rfl, fun _ => ⟨_, 0, rfl, by simp, fun j hj => ?_⟩⟩, below_bytes (by repeat' (first | with_reducible assumption | with_reducible exact Below.refl _ _ | with_reducible refine Below.setCell ?_ ?_ _ | with_reducible refine Below.alloc ?_ ?_ _ | with_reducible refine Below.drew ?_ | with_reducible refine below_drewN ?_ _ | omega | (simp; done) | (simp; omega))) (by simp) _ _⟩
  have := Lib.bytesWorld_cell (w.alloc (.cells #[.int .i64 k0, .int .u64 3, .string s, .int .i64 t.sec, .int .i64 t.nsec, .int .i64 t.off, .slice A len cap] 33)) 5 s j hj
  simpa using this

set_option maxRecDepth 100000 in
set_option maxHeartbeats 400000 in
theorem anyOf_13 (hl : RS w l A len) : Calls Tryz.prog 132 #[.agg #[.int .i64 k0, .int .u64 13, .string s, .int .i64 t.sec, .int .i64 t.nsec, .int .i64 t.off, .slice A len cap]] w (AnyPost (.source l.head s t.sec) w) := by
  unfold AnyPost
  have Hl := Lib.hid hl
  clear hl
  go_enter Tryz.func132, Tryz.ntmps132
  go_wp2
  go_region_held3 (fun w' => w'.cell? ⟨w.heap.size, 0, none⟩ = some (.int .i64 k0) ∧ w'.cell? ⟨w.heap.size, 1, none⟩ = some (.int .u64 13) ∧ w'.cell? ⟨w.heap.size, 2, none⟩ = some (.string s) ∧ w'.cell? ⟨w.heap.size, 3, none⟩ = some (.int .i64 t.sec) ∧ w'.cell? ⟨w.heap.size, 4, none⟩ = some (.int .i64 t.nsec) ∧ w'.cell? ⟨w.heap.size, 5, none⟩ = some (.int .i64 t.off) ∧ w'.cell? ⟨w.heap.size, 6, none⟩ = some (.slice A len cap)) (go_keep) (first | (go_at_call 162; refine (extra_any (.mk k0 13 s t l) _ _ _ _ (Hl.out.keep (keeps_of_below (by repeat' (first | with_reducible assumption | with_reducible exact Below.refl _ _ | with_reducible refine Below.setCell ?_ ?_ _ | with_reducible refine Below.alloc ?_ ?_ _ | with_reducible refine Below.drew ?_ | with_reducible refine below_drewN ?_ _ | omega | (simp; done) | (simp; omega)))))).mono ?_; rintro e w2 ⟨rfl, hb2⟩; have hB2 := keeps_below (show Below w.heap.size w _ from (by repeat' (first | with_reducible assumption | with_reducible exact Below.refl _ _ | with_reducible refine Below.setCell ?_ ?_ _ | with_reducible refine Below.alloc ?_ ?_ _ | with_reducible refine Below.drew ?_ | with_reducible refine below_drewN ?_ _ | omega | (simp; done) | (simp; omega)))) hb2; obtain ⟨hc2, hf2⟩ := bcell hb2; have hs2 := hb2.size; simp at hs2; simp only [l_mk]))
  all_goals go_wp2
  go_ret
  exact ⟨_, rfl, ⟨_, rfl, ⟨by simp; omega, heap_alloc_new _ _⟩, by simp, by simp, by simp⟩, (by repeat' (first | with_reducible assumption | with_reducible exact Below.refl _ _ | with_reducible refine Below.setCell ?_ ?_ _ | with_reducible refine Below.alloc ?_ ?_ _ | with_reducible refine Below.drew ?_ | with_reducible refine below_drewN ?_ _ | omega | (simp; done) | (simp; omega)))⟩

set_option maxRecDepth 100000 in
set_option maxHeartbeats 400000 in
theorem anyOf_15 (hl : RS w l A len) : Calls Tryz.prog 132 #[.agg #[.int .i64 k0, .int .u64 15, .string s, .int .i64 t.sec, .int .i64 t.nsec, .int .i64 t.off, .slice A len cap]] w (AnyPost (.both s l.head) w) := by
  unfold AnyPost
  have Hl := Lib.hid hl
  clear hl
  go_enter Tryz.func132, Tryz.ntmps132
  go_wp2
  go_region_held3 (fun w' => w'.cell? ⟨w.heap.size, 0, none⟩ = some (.int .i64 k0) ∧ w'.cell? ⟨w.heap.size, 1, none⟩ = some (.int .u64 15) ∧ w'.cell? ⟨w.heap.size, 2, none⟩ = some (.string s) ∧ w'.cell? ⟨w.heap.size, 3, none⟩ = some (.int .i64 t.sec) ∧ w'.cell? ⟨w.heap.size, 4, none⟩ = some (.int .i64 t.nsec) ∧ w'.cell? ⟨w.heap.size, 5, none⟩ = some (.int .i64 t.off) ∧ w'.cell? ⟨w.heap.size, 6, none⟩ = some (.slice A len cap)) (go_keep) (first | (go_at_call 162; refine (extra_any (.mk k0 15 s t l) _ _ _ _ (Hl.out.keep (keeps_of_below (by repeat' (first | with_reducible assumption | with_reducible exact Below.refl _ _ | with_reducible refine Below.setCell ?_ ?_ _ | with_reducible refine Below.alloc ?_ ?_ _ | with_reducible refine Below.drew ?_ | with_reducible refine below_drewN ?_ _ | omega | (simp; done) | (simp; omega)))))).mono ?_; rintro e w2 ⟨rfl, hb2⟩; have hB2 := keeps_below (show Below w.heap.size w _ from (by repeat' (first | with_reducible assumption | with_reducible exact Below.refl _ _ | with_reducible refine Below.setCell ?_ ?_ _ | with_reducible refine Below.alloc ?_ ?_ _ | with_reducible refine Below.drew ?_ | with_reducible refine below_drewN ?_ _ | omega | (simp; done) | (simp; omega)))) hb2; obtain ⟨hc2, hf2⟩ := bcell hb2; have hs2 := hb2.size; simp at hs2; simp only [l_mk]))
  all_goals go_wp2
  go_ret
  exact ⟨_, rfl, rfl, (by repeat' (first | with_reducible assumption | with_reducible exact Below.refl _ _ | with_reducible refine Below.setCell ?_ ?_ _ | with_reducible refine Below.alloc ?_ ?_ _ | with_reducible refine Below.drew ?_ | with_reducible refine below_drewN ?_ _ | omega | (simp; done) | (simp; omega)))⟩

end

/-- impl.anyOf. -/
theorem anyOf_any (k0 n : Int) (s : ByteArray) (t : GTime) (l : GAttrs) (w : World) (A : Option Addr) (len cap : Nat) (hl : RS w l A len) :
    Calls Tryz.prog 132 #[.agg #[.int .i64 k0, .int .u64 n, .string s, .int .i64 t.sec, .int .i64 t.nsec, .int .i64 t.off, .slice A len cap]] w (AnyPost (anyOf n s t l) w) := by
  by_cases h1 : n = 1
  · subst h1
    have e : anyOf 1 s t l = .err s := by simp [anyOf]
    rw [e]; exact anyOf_1 _ _ _ _ _ _ _
  by_cases h2 : n = 2
  · subst h2
    have e : anyOf 2 s t l = .stringer s := by simp [anyOf]
    rw [e]; exact anyOf_2 _ _ _ _ _ _ _
  by_cases h3 : n = 3
  · subst h3
    have e : anyOf 3 s t l = .bytes s := by simp [anyOf]
    rw [e]; exact anyOf_3 _ _ _ _ _ _ _
  by_cases h4 : n = 4
  · subst h4
    have e : anyOf 4 s t l = .text s := by simp [anyOf]
    rw [e]; exact anyOf_4 _ _ _ _ _ _ _
  by_cases h5 : n = 5
  · subst h5
    have e : anyOf 5 s t l = .fails s := by simp [anyOf]
    rw [e]; exact anyOf_5 _ _ _ _ _ _ _
  by_cases h6 : n = 6
  · subst h6
    have e : anyOf 6 s t l = .number t.sec := by simp [anyOf]
    rw [e]; exact anyOf_6 _ _ _ _ _ _ _
  by_cases h7 : n = 7
  · subst h7
    have e : anyOf 7 s t l = .level t.sec := by simp [anyOf]
    rw [e]; exact anyOf_7 _ _ _ _ _ _ _
  by_cases h8 : n = 8
  · subst h8
    have e : anyOf 8 s t l = .kind t.sec := by simp [anyOf]
    rw [e]; exact anyOf_8 _ _ _ _ _ _ _
  by_cases h9 : n = 9
  · subst h9
    have e : anyOf 9 s t l = .appender s s := by simp [anyOf]
    rw [e]; exact anyOf_9 _ _ _ _ _ _ _
  by_cases h10 : n = 10
  · subst h10
    have e : anyOf 10 s t l = .lacks s := by simp [anyOf]
    rw [e]; exact anyOf_10 _ _ _ _ _ _ _
  by_cases h11 : n = 11
  · subst h11
    have e : anyOf 11 s t l = .panics s := by simp [anyOf]
    rw [e]; exact anyOf_11 _ _ _ _ _ _ _
  by_cases h12 : n = 12
  · subst h12
    have e : anyOf 12 s t l = .pointer := by simp [anyOf]
    rw [e]; exact anyOf_12 _ _ _ _ _ _ _
  by_cases h13 : n = 13
  · subst h13
    have e : anyOf 13 s t l = .source l.head s t.sec := by simp [anyOf]
    rw [e]; exact anyOf_13 _ _ _ _ _ _ _ _ hl
  by_cases h14 : n = 14
  · subst h14
    have e : anyOf 14 s t l = .nosource := by simp [anyOf]
    rw [e]; exact anyOf_14 _ _ _ _ _ _ _
  by_cases h15 : n = 15
  · subst h15
    have e : anyOf 15 s t l = .both s l.head := by simp [anyOf]
    rw [e]; exact anyOf_15 _ _ _ _ _ _ _ _ hl
  have e : anyOf n s t l = .nil := by simp [anyOf, h1, h2, h3, h4, h5, h6, h7, h8, h9, h10, h11, h12, h13, h14, h15]
  rw [e]; exact anyOf_none _ _ _ _ _ _ _ _ h1 h2 h3 h4 h5 h6 h7 h8 h9 h10 h11 h12 h13 h14 h15

end Go.Proofs.YtihhgnbgejjijaaGreatDoor.Va

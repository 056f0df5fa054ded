/- What package slog makes of a Go value of any type (AnyValue): the walk. -/
import Derived.Test.YtdeomgfapffidaaGreatDoorMake
namespace Go.Proofs.YtdeomgfapffidaaGreatDoor.Va
set_option linter.unusedVariables false
set_option linter.unusedSimpArgs false
open Go Go.RowKit

/-- A Go value of any type, as it is handed to AnyValue. -/
def RRaw (P : Nat → Prop) (w : World) : GAny → Value → Prop
  | .kind n, v => v = .iface 125 (.int .i64 n)
  | g, v => RAny P w g v

set_option maxRecDepth 100000 in
set_option maxHeartbeats 400000 in
/-- slog.AnyValue, of values that it keeps. -/
theorem anyValue_any {P : Nat → Prop} (g : GAny) (w : World) (v : Value) (h : RRaw P w g v) :
    Calls Tryz.prog 47 #[v] w fun e w' => ∃ v', e = .returned (.agg #[.int .u64 0, v']) ∧ RAny P w' g v' ∧ Below w.heap.size w w' := by
  cases g with
  | kind n =>
    simp only [RRaw] at h
    subst h
    go_enter Tryz.func47, Tryz.ntmps47
    go_wp2
    exact bodyPost_ret (v := .agg #[.int .u64 0, .iface 182 (.int .i64 n)]) (by simp [results, Tryz.results47, go_sem]) rfl ⟨_, rfl, rfl, (by repeat' (first | with_reducible assumption | with_reducible exact Below.refl _ _ | with_reducible refine Below.setCell ?_ ?_ _ | with_reducible refine Below.alloc ?_ ?_ _ | with_reducible refine Below.drew ?_ | with_reducible refine below_drewN ?_ _ | omega | (simp; done) | (simp; omega)))⟩
  | bytes s =>
    simp only [RRaw] at h
    have H := Lib.hid h
    obtain ⟨A, len, cap, rfl, h'⟩ := h
    clear h'
    go_enter Tryz.func47, Tryz.ntmps47
    go_wp2
    exact bodyPost_ret (v := .agg #[.int .u64 0, .iface 148 (.slice A len cap)]) (by simp [results, Tryz.results47, go_sem]) rfl ⟨_, rfl, H.out.turn (keepsOn_of_below (by repeat' (first | with_reducible assumption | with_reducible exact Below.refl _ _ | with_reducible refine Below.setCell ?_ ?_ _ | with_reducible refine Below.alloc ?_ ?_ _ | with_reducible refine Below.drew ?_ | with_reducible refine below_drewN ?_ _ | omega | (simp; done) | (simp; omega))) P) (fun _ h _ => h), (by repeat' (first | with_reducible assumption | with_reducible exact Below.refl _ _ | with_reducible refine Below.setCell ?_ ?_ _ | with_reducible refine Below.alloc ?_ ?_ _ | with_reducible refine Below.drew ?_ | with_reducible refine below_drewN ?_ _ | omega | (simp; done) | (simp; omega)))⟩
  | source f s n =>
    simp only [RRaw] at h
    have H := Lib.hid h
    obtain ⟨b, rfl, h'⟩ := h
    clear h'
    go_enter Tryz.func47, Tryz.ntmps47
    go_wp2
    exact bodyPost_ret (v := .agg #[.int .u64 0, .iface 107 (.pointer (some ⟨b, 0, none⟩))]) (by simp [results, Tryz.results47, go_sem]) rfl ⟨_, rfl, H.out.turn (keepsOn_of_below (by repeat' (first | with_reducible assumption | with_reducible exact Below.refl _ _ | with_reducible refine Below.setCell ?_ ?_ _ | with_reducible refine Below.alloc ?_ ?_ _ | with_reducible refine Below.drew ?_ | with_reducible refine below_drewN ?_ _ | omega | (simp; done) | (simp; omega))) P) (fun _ h _ => h), (by repeat' (first | with_reducible assumption | with_reducible exact Below.refl _ _ | with_reducible refine Below.setCell ?_ ?_ _ | with_reducible refine Below.alloc ?_ ?_ _ | with_reducible refine Below.drew ?_ | with_reducible refine below_drewN ?_ _ | omega | (simp; done) | (simp; omega)))⟩
  | nil  =>
    simp only [RRaw, RAny] at h
    subst h
    go_enter Tryz.func47, Tryz.ntmps47
    go_wp2
    exact bodyPost_ret (v := .agg #[.int .u64 0, .nilIface]) (by simp [results, Tryz.results47, go_sem]) rfl ⟨_, rfl, rfl, (by repeat' (first | with_reducible assumption | with_reducible exact Below.refl _ _ | with_reducible refine Below.setCell ?_ ?_ _ | with_reducible refine Below.alloc ?_ ?_ _ | with_reducible refine Below.drew ?_ | with_reducible refine below_drewN ?_ _ | omega | (simp; done) | (simp; omega)))⟩
  | err s =>
    simp only [RRaw, RAny] at h
    subst h
    go_enter Tryz.func47, Tryz.ntmps47
    go_wp2
    exact bodyPost_ret (v := .agg #[.int .u64 0, .iface 146 (.agg #[.string s])]) (by simp [results, Tryz.results47, go_sem]) rfl ⟨_, rfl, rfl, (by repeat' (first | with_reducible assumption | with_reducible exact Below.refl _ _ | with_reducible refine Below.setCell ?_ ?_ _ | with_reducible refine Below.alloc ?_ ?_ _ | with_reducible refine Below.drew ?_ | with_reducible refine below_drewN ?_ _ | omega | (simp; done) | (simp; omega)))⟩
  | stringer s =>
    simp only [RRaw, RAny] at h
    subst h
    go_enter Tryz.func47, Tryz.ntmps47
    go_wp2
    exact bodyPost_ret (v := .agg #[.int .u64 0, .iface 147 (.agg #[.string s])]) (by simp [results, Tryz.results47, go_sem]) rfl ⟨_, rfl, rfl, (by repeat' (first | with_reducible assumption | with_reducible exact Below.refl _ _ | with_reducible refine Below.setCell ?_ ?_ _ | with_reducible refine Below.alloc ?_ ?_ _ | with_reducible refine Below.drew ?_ | with_reducible refine below_drewN ?_ _ | omega | (simp; done) | (simp; omega)))⟩
  | text s =>
    simp only [RRaw, RAny] at h
    subst h
    go_enter Tryz.func47, Tryz.ntmps47
    go_wp2
    exact bodyPost_ret (v := .agg #[.int .u64 0, .iface 149 (.agg #[.string s])]) (by simp [results, Tryz.results47, go_sem]) rfl ⟨_, rfl, rfl, (by repeat' (first | with_reducible assumption | with_reducible exact Below.refl _ _ | with_reducible refine Below.setCell ?_ ?_ _ | with_reducible refine Below.alloc ?_ ?_ _ | with_reducible refine Below.drew ?_ | with_reducible refine below_drewN ?_ _ | omega | (simp; done) | (simp; omega)))⟩
  | fails s =>
    simp only [RRaw, RAny] at h
    subst h
    go_enter Tryz.func47, Tryz.ntmps47
    go_wp2
    exact bodyPost_ret (v := .agg #[.int .u64 0, .iface 150 (.agg #[.string s])]) (by simp [results, Tryz.results47, go_sem]) rfl ⟨_, rfl, rfl, (by repeat' (first | with_reducible assumption | with_reducible exact Below.refl _ _ | with_reducible refine Below.setCell ?_ ?_ _ | with_reducible refine Below.alloc ?_ ?_ _ | with_reducible refine Below.drew ?_ | with_reducible refine below_drewN ?_ _ | omega | (simp; done) | (simp; omega)))⟩
  | number n =>
    simp only [RRaw, RAny] at h
    subst h
    go_enter Tryz.func47, Tryz.ntmps47
    go_wp2
    exact bodyPost_ret (v := .agg #[.int .u64 0, .iface 151 (.int .i64 n)]) (by simp [results, Tryz.results47, go_sem]) rfl ⟨_, rfl, rfl, (by repeat' (first | with_reducible assumption | with_reducible exact Below.refl _ _ | with_reducible refine Below.setCell ?_ ?_ _ | with_reducible refine Below.alloc ?_ ?_ _ | with_reducible refine Below.drew ?_ | with_reducible refine below_drewN ?_ _ | omega | (simp; done) | (simp; omega)))⟩
  | level n =>
    simp only [RRaw, RAny] at h
    subst h
    go_enter Tryz.func47, Tryz.ntmps47
    go_wp2
    exact bodyPost_ret (v := .agg #[.int .u64 0, .iface 101 (.int .i64 n)]) (by simp [results, Tryz.results47, go_sem]) rfl ⟨_, rfl, rfl, (by repeat' (first | with_reducible assumption | with_reducible exact Below.refl _ _ | with_reducible refine Below.setCell ?_ ?_ _ | with_reducible refine Below.alloc ?_ ?_ _ | with_reducible refine Below.drew ?_ | with_reducible refine below_drewN ?_ _ | omega | (simp; done) | (simp; omega)))⟩
  | appender s t =>
    simp only [RRaw, RAny] at h
    subst h
    go_enter Tryz.func47, Tryz.ntmps47
    go_wp2
    exact bodyPost_ret (v := .agg #[.int .u64 0, .iface 153 (.agg #[.string s, .string t])]) (by simp [results, Tryz.results47, go_sem]) rfl ⟨_, rfl, rfl, (by repeat' (first | with_reducible assumption | with_reducible exact Below.refl _ _ | with_reducible refine Below.setCell ?_ ?_ _ | with_reducible refine Below.alloc ?_ ?_ _ | with_reducible refine Below.drew ?_ | with_reducible refine below_drewN ?_ _ | omega | (simp; done) | (simp; omega)))⟩
  | lacks s =>
    simp only [RRaw, RAny] at h
    subst h
    go_enter Tryz.func47, Tryz.ntmps47
    go_wp2
    exact bodyPost_ret (v := .agg #[.int .u64 0, .iface 154 (.agg #[.string s])]) (by simp [results, Tryz.results47, go_sem]) rfl ⟨_, rfl, rfl, (by repeat' (first | with_reducible assumption | with_reducible exact Below.refl _ _ | with_reducible refine Below.setCell ?_ ?_ _ | with_reducible refine Below.alloc ?_ ?_ _ | with_reducible refine Below.drew ?_ | with_reducible refine below_drewN ?_ _ | omega | (simp; done) | (simp; omega)))⟩
  | panics s =>
    simp only [RRaw, RAny] at h
    subst h
    go_enter Tryz.func47, Tryz.ntmps47
    go_wp2
    exact bodyPost_ret (v := .agg #[.int .u64 0, .iface 155 (.agg #[.string s])]) (by simp [results, Tryz.results47, go_sem]) rfl ⟨_, rfl, rfl, (by repeat' (first | with_reducible assumption | with_reducible exact Below.refl _ _ | with_reducible refine Below.setCell ?_ ?_ _ | with_reducible refine Below.alloc ?_ ?_ _ | with_reducible refine Below.drew ?_ | with_reducible refine below_drewN ?_ _ | omega | (simp; done) | (simp; omega)))⟩
  | pointer  =>
    simp only [RRaw, RAny] at h
    subst h
    go_enter Tryz.func47, Tryz.ntmps47
    go_wp2
    exact bodyPost_ret (v := .agg #[.int .u64 0, .iface 156 (.pointer none)]) (by simp [results, Tryz.results47, go_sem]) rfl ⟨_, rfl, rfl, (by repeat' (first | with_reducible assumption | with_reducible exact Below.refl _ _ | with_reducible refine Below.setCell ?_ ?_ _ | with_reducible refine Below.alloc ?_ ?_ _ | with_reducible refine Below.drew ?_ | with_reducible refine below_drewN ?_ _ | omega | (simp; done) | (simp; omega)))⟩
  | nosource  =>
    simp only [RRaw, RAny] at h
    subst h
    go_enter Tryz.func47, Tryz.ntmps47
    go_wp2
    exact bodyPost_ret (v := .agg #[.int .u64 0, .iface 107 (.pointer none)]) (by simp [results, Tryz.results47, go_sem]) rfl ⟨_, rfl, rfl, (by repeat' (first | with_reducible assumption | with_reducible exact Below.refl _ _ | with_reducible refine Below.setCell ?_ ?_ _ | with_reducible refine Below.alloc ?_ ?_ _ | with_reducible refine Below.drew ?_ | with_reducible refine below_drewN ?_ _ | omega | (simp; done) | (simp; omega)))⟩
  | both s t =>
    simp only [RRaw, RAny] at h
    subst h
    go_enter Tryz.func47, Tryz.ntmps47
    go_wp2
    exact bodyPost_ret (v := .agg #[.int .u64 0, .iface 160 (.agg #[.string s, .string t])]) (by simp [results, Tryz.results47, go_sem]) rfl ⟨_, rfl, rfl, (by repeat' (first | with_reducible assumption | with_reducible exact Below.refl _ _ | with_reducible refine Below.setCell ?_ ?_ _ | with_reducible refine Below.alloc ?_ ?_ _ | with_reducible refine Below.drew ?_ | with_reducible refine below_drewN ?_ _ | omega | (simp; done) | (simp; omega)))⟩
  | made s => simp only [RRaw, RAny] at h

set_option maxRecDepth 100000 in
set_option maxHeartbeats 400000 in
theorem anyValue_valuer (n : Int) (x y : Value) (c : Option Addr) (w : World) :
    Calls Tryz.prog 47 #[.iface 144 (.agg #[.int .u64 n, x, y, .pointer c])] w fun e w' => e = .returned (.agg #[.int .u64 0, .iface 144 (.agg #[.int .u64 n, x, y, .pointer c])]) ∧ Below w.heap.size w w' := by
  go_enter Tryz.func47, Tryz.ntmps47
  go_wp2
  exact bodyPost_ret (v := .agg #[.int .u64 0, .iface 144 (.agg #[.int .u64 n, x, y, .pointer c])]) (by simp [results, Tryz.results47, go_sem]) rfl ⟨rfl, (by repeat' (first | with_reducible assumption | with_reducible exact Below.refl _ _ | with_reducible refine Below.setCell ?_ ?_ _ | with_reducible refine Below.alloc ?_ ?_ _ | with_reducible refine Below.drew ?_ | with_reducible refine below_drewN ?_ _ | omega | (simp; done) | (simp; omega)))⟩

set_option maxRecDepth 100000 in
set_option maxHeartbeats 400000 in
theorem anyValue_throws (s : ByteArray) (c : Option Addr) (w : World) :
    Calls Tryz.prog 47 #[.iface 142 (.agg #[.string s, .pointer c])] w fun e w' => e = .returned (.agg #[.int .u64 0, .iface 142 (.agg #[.string s, .pointer c])]) ∧ Below w.heap.size w w' := by
  go_enter Tryz.func47, Tryz.ntmps47
  go_wp2
  exact bodyPost_ret (v := .agg #[.int .u64 0, .iface 142 (.agg #[.string s, .pointer c])]) (by simp [results, Tryz.results47, go_sem]) rfl ⟨rfl, (by repeat' (first | with_reducible assumption | with_reducible exact Below.refl _ _ | with_reducible refine Below.setCell ?_ ?_ _ | with_reducible refine Below.alloc ?_ ?_ _ | with_reducible refine Below.drew ?_ | with_reducible refine below_drewN ?_ _ | omega | (simp; done) | (simp; omega)))⟩

end Go.Proofs.YtdeomgfapffidaaGreatDoor.Va

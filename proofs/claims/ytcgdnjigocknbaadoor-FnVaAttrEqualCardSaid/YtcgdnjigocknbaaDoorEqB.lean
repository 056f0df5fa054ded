/- When package spec has two values be equal (spec.VaEqual, VaAttrEqual): the walks. -/
import Derived.Test.YtcgdnjigocknbaaDoorEq
import Derived.Deep.RegionHeld3
namespace Go.Proofs.YtcgdnjigocknbaaDoor.Va
set_option linter.unusedVariables false
set_option linter.unusedSimpArgs false
open Go Go.RowKit

/-- What the walks hand back. -/
def TwoPost (r : Bool × Bool) (w : World) (e : Ending) (w' : World) : Prop := e = .returned (.tuple #[.bool r.1, .bool r.2]) ∧ Below w.heap.size w w'

def EqV (d : GVal) : Prop := ∀ (d' : GVal) (w : World) (A A' : Option Addr) (len cap len' cap' : Nat), RS w d.l A len → RS w d'.l A' len' →
  Calls Tryd.prog 9 #[vVal d A len cap, vVal d' A' len' cap'] w (TwoPost (vaEqual d d') w)

/-- A text, and a value, in one row of cells. -/
def vAttr (key : ByteArray) (d : GVal) (A : Option Addr) (len cap : Nat) : Value := .agg #[.string key, .int .i64 d.kind, .int .u64 d.n, .string d.s, .int .i64 d.t.sec, .int .i64 d.t.nsec, .int .i64 d.t.off, .slice A len cap]
attribute [go_sem] vAttr

/-- spec.VaAttrEqual. -/
def attrEqual (key : ByteArray) (d : GVal) (key' : ByteArray) (d' : GVal) : Bool × Bool := if key ≠ key' then (false, false) else vaEqual d d'

theorem attrEq_val (key key' : ByteArray) (d d' : GVal) (ih : EqV d) (w : World) (A A' : Option Addr) (len cap len' cap' : Nat) (hl : RS w d.l A len) (hl' : RS w d'.l A' len') :
    Calls Tryd.prog 13 #[vAttr key d A len cap, vAttr key' d' A' len' cap'] w (TwoPost (attrEqual key d key' d') w) := by
  unfold TwoPost
  simp only [vAttr]
  have Hih := Lib.hid ih
  have Hl := Lib.hid hl
  have Hl' := Lib.hid hl'
  clear ih hl hl'
  by_cases hk : key = key'
  · subst hk
    have e : attrEqual key d key d' = vaEqual d d' := by simp [attrEqual]
    rw [e]
    clear e
    go_enter Tryd.func13, Tryd.ntmps13
    go_wp2_with (go_at_call 9; refine (Hih.out d' _ _ _ _ _ _ _ (Hl.out.keep (keeps_of_below (by repeat' (first | with_reducible assumption | with_reducible exact Below.refl _ _ | with_reducible refine Below.setCell ?_ ?_ _ | with_reducible refine Below.alloc ?_ ?_ _ | with_reducible refine Below.drew ?_ | with_reducible refine below_drewN ?_ _ | omega | (simp; done) | (simp; omega))))) (Hl'.out.keep (keeps_of_below (by repeat' (first | with_reducible assumption | with_reducible exact Below.refl _ _ | with_reducible refine Below.setCell ?_ ?_ _ | with_reducible refine Below.alloc ?_ ?_ _ | with_reducible refine Below.drew ?_ | with_reducible refine below_drewN ?_ _ | omega | (simp; done) | (simp; omega)))))).mono ?_; rintro e w2 ⟨rfl, hb2⟩; have hB2 := keeps_below (show Below w.heap.size w _ from (by repeat' (first | with_reducible assumption | with_reducible exact Below.refl _ _ | with_reducible refine Below.setCell ?_ ?_ _ | with_reducible refine Below.alloc ?_ ?_ _ | with_reducible refine Below.drew ?_ | with_reducible refine below_drewN ?_ _ | omega | (simp; done) | (simp; omega)))) hb2)
    go_ret2
    exact ⟨rfl, hB2⟩
  · have hb : (key.toList == key'.toList) = false := by rw [toList_beq]; simp [hk]
    have e : attrEqual key d key' d' = (false, false) := by simp [attrEqual, hk]
    rw [e]
    clear e
    go_enter Tryd.func13, Tryd.ntmps13
    go_wp2
    go_ret2
    exact ⟨rfl, (by repeat' (first | with_reducible assumption | with_reducible exact Below.refl _ _ | with_reducible refine Below.setCell ?_ ?_ _ | with_reducible refine Below.alloc ?_ ?_ _ | with_reducible refine Below.drew ?_ | with_reducible refine below_drewN ?_ _ | omega | (simp; done) | (simp; omega)))⟩

section
variable (n n' : Int) (s s' : ByteArray) (t t' : GTime) (l l' : GAttrs) (w : World) (A A' : Option Addr) (len cap len' cap' : Nat)

set_option maxRecDepth 100000 in
set_option maxHeartbeats 400000 in
theorem eq_diff (k k' : Int) (h : k ≠ k') : Calls Tryd.prog 9 #[.agg #[.int .i64 k, .int .u64 n, .string s, .int .i64 t.sec, .int .i64 t.nsec, .int .i64 t.off, .slice A len cap], .agg #[.int .i64 k', .int .u64 n', .string s', .int .i64 t'.sec, .int .i64 t'.nsec, .int .i64 t'.off, .slice A' len' cap']] w (TwoPost (false, false) w) := by
  unfold TwoPost
  go_enter Tryd.func9, Tryd.ntmps9
  go_wp2
  go_ret2
  exact ⟨rfl, (by repeat' (first | with_reducible assumption | with_reducible exact Below.refl _ _ | with_reducible refine Below.setCell ?_ ?_ _ | with_reducible refine Below.alloc ?_ ?_ _ | with_reducible refine Below.drew ?_ | with_reducible refine below_drewN ?_ _ | omega | (simp; done) | (simp; omega)))⟩

set_option maxRecDepth 100000 in
set_option maxHeartbeats 400000 in
theorem eq_rest (k : Int) (h3 : ¬ k = 3) (h5 : ¬ k = 5) (h6 : ¬ k = 6) (h8 : ¬ k = 8) (h0 : ¬ k = 0) (h9 : ¬ k = 9) : Calls Tryd.prog 9 #[.agg #[.int .i64 k, .int .u64 n, .string s, .int .i64 t.sec, .int .i64 t.nsec, .int .i64 t.off, .slice A len cap], .agg #[.int .i64 k, .int .u64 n', .string s', .int .i64 t'.sec, .int .i64 t'.nsec, .int .i64 t'.off, .slice A' len' cap']] w (TwoPost (decide (n = n'), false) w) := by
  unfold TwoPost
  go_enter Tryd.func9, Tryd.ntmps9
  go_wp2
  go_ret2
  refine ⟨?_, (by repeat' (first | with_reducible assumption | with_reducible exact Below.refl _ _ | with_reducible refine Below.setCell ?_ ?_ _ | with_reducible refine Below.alloc ?_ ?_ _ | with_reducible refine Below.drew ?_ | with_reducible refine below_drewN ?_ _ | omega | (simp; done) | (simp; omega)))⟩
  try go_tidy
  all_goals simp [int_beq]

set_option maxRecDepth 100000 in
set_option maxHeartbeats 400000 in
theorem eq_str : Calls Tryd.prog 9 #[.agg #[.int .i64 5, .int .u64 n, .string s, .int .i64 t.sec, .int .i64 t.nsec, .int .i64 t.off, .slice A len cap], .agg #[.int .i64 5, .int .u64 n', .string s', .int .i64 t'.sec, .int .i64 t'.nsec, .int .i64 t'.off, .slice A' len' cap']] w (TwoPost (decide (s = s'), false) w) := by
  unfold TwoPost
  go_enter Tryd.func9, Tryd.ntmps9
  go_wp2
  go_ret2
  refine ⟨?_, (by repeat' (first | with_reducible assumption | with_reducible exact Below.refl _ _ | with_reducible refine Below.setCell ?_ ?_ _ | with_reducible refine Below.alloc ?_ ?_ _ | with_reducible refine Below.drew ?_ | with_reducible refine below_drewN ?_ _ | omega | (simp; done) | (simp; omega)))⟩
  try go_tidy
  all_goals simp [toList_beq]

set_option maxRecDepth 100000 in
set_option maxHeartbeats 400000 in
theorem eq_time : Calls Tryd.prog 9 #[.agg #[.int .i64 6, .int .u64 n, .string s, .int .i64 t.sec, .int .i64 t.nsec, .int .i64 t.off, .slice A len cap], .agg #[.int .i64 6, .int .u64 n', .string s', .int .i64 t'.sec, .int .i64 t'.nsec, .int .i64 t'.off, .slice A' len' cap']] w (TwoPost (decide (t.sec = t'.sec) && decide (t.nsec = t'.nsec), false) w) := by
  unfold TwoPost
  go_enter Tryd.func9, Tryd.ntmps9
  go_wp2
  all_goals
    go_ret2
    refine ⟨?_, (by repeat' (first | with_reducible assumption | with_reducible exact Below.refl _ _ | with_reducible refine Below.setCell ?_ ?_ _ | with_reducible refine Below.alloc ?_ ?_ _ | with_reducible refine Below.drew ?_ | with_reducible refine below_drewN ?_ _ | omega | (simp; done) | (simp; omega)))⟩
    try go_tidy
    all_goals simp_all [int_beq]

set_option maxRecDepth 100000 in
set_option maxHeartbeats 400000 in
theorem eq_valuer : Calls Tryd.prog 9 #[.agg #[.int .i64 9, .int .u64 n, .string s, .int .i64 t.sec, .int .i64 t.nsec, .int .i64 t.off, .slice A len cap], .agg #[.int .i64 9, .int .u64 n', .string s', .int .i64 t'.sec, .int .i64 t'.nsec, .int .i64 t'.off, .slice A' len' cap']] w
    (TwoPost (if s = ByteArray.empty ∧ s' = ByteArray.empty then (false, true) else (decide (s ≠ ByteArray.empty) && decide (s = s'), false)) w) := by
  unfold TwoPost
  by_cases h : s = ByteArray.empty
  · subst h
    by_cases h' : s' = ByteArray.empty
    · subst h'
      go_enter Tryd.func9, Tryd.ntmps9
      go_wp2
      go_ret2
      refine ⟨?_, (by repeat' (first | with_reducible assumption | with_reducible exact Below.refl _ _ | with_reducible refine Below.setCell ?_ ?_ _ | with_reducible refine Below.alloc ?_ ?_ _ | with_reducible refine Below.drew ?_ | with_reducible refine below_drewN ?_ _ | omega | (simp; done) | (simp; omega)))⟩
      try go_tidy
      all_goals simp
    · have hb := toList_ne h'
      have he : (if ByteArray.empty = ByteArray.empty ∧ s' = ByteArray.empty then (false, true) else (decide (ByteArray.empty ≠ ByteArray.empty) && decide (ByteArray.empty = s'), false)) = (false, false) := by simp [h']
      rw [he]
      clear he
      go_enter Tryd.func9, Tryd.ntmps9
      go_wp2
      all_goals
        go_ret2
        exact ⟨rfl, (by repeat' (first | with_reducible assumption | with_reducible exact Below.refl _ _ | with_reducible refine Below.setCell ?_ ?_ _ | with_reducible refine Below.alloc ?_ ?_ _ | with_reducible refine Below.drew ?_ | with_reducible refine below_drewN ?_ _ | omega | (simp; done) | (simp; omega)))⟩
  · have hb := toList_ne h
    rw [if_neg (fun x => h x.1)]
    go_enter Tryd.func9, Tryd.ntmps9
    go_wp2
    go_ret2
    refine ⟨?_, (by repeat' (first | with_reducible assumption | with_reducible exact Below.refl _ _ | with_reducible refine Below.setCell ?_ ?_ _ | with_reducible refine Below.alloc ?_ ?_ _ | with_reducible refine Below.drew ?_ | with_reducible refine below_drewN ?_ _ | omega | (simp; done) | (simp; omega)))⟩
    try go_tidy
    all_goals simp_all [toList_beq]

theorem frombits_run (m : Int) (w : World) : (callFunc 18 #[.int .u64 m]).run Tryd.prog w = .ok (.value (.float .f64 m.toNat)) w := by
  rw [run_callFunc_extern (fn := Tryd.f18) (e := Extern.MathFloatBits.float64frombits) (by kernel_rfl) (by kernel_rfl) (by kernel_rfl) (by kernel_rfl) (by kernel_rfl)]
  rfl

set_option maxRecDepth 100000 in
set_option maxHeartbeats 400000 in
theorem eq_float : Calls Tryd.prog 9 #[.agg #[.int .i64 3, .int .u64 n, .string s, .int .i64 t.sec, .int .i64 t.nsec, .int .i64 t.off, .slice A len cap], .agg #[.int .i64 3, .int .u64 n', .string s', .int .i64 t'.sec, .int .i64 t'.nsec, .int .i64 t'.off, .slice A' len' cap']] w (TwoPost (feq n n', false) w) := by
  unfold TwoPost
  have h1 := frombits_run
  go_enter Tryd.func9, Tryd.ntmps9
  go_wp2
  go_quiet (fail)
  go_wp2
  go_ret2
  refine ⟨?_, (by repeat' (first | with_reducible assumption | with_reducible exact Below.refl _ _ | with_reducible refine Below.setCell ?_ ?_ _ | with_reducible refine Below.alloc ?_ ?_ _ | with_reducible refine Below.drew ?_ | with_reducible refine below_drewN ?_ _ | omega | (simp; done) | (simp; omega)))⟩
  try go_tidy
  all_goals simp [feq, Go.Op.floatEq]

set_option maxRecDepth 100000 in
set_option maxHeartbeats 400000 in
theorem eq_anys (hl : RS w l A len) (hl' : RS w l' A' len') : Calls Tryd.prog 9 #[.agg #[.int .i64 0, .int .u64 n, .string s, .int .i64 t.sec, .int .i64 t.nsec, .int .i64 t.off, .slice A len cap], .agg #[.int .i64 0, .int .u64 n', .string s', .int .i64 t'.sec, .int .i64 t'.nsec, .int .i64 t'.off, .slice A' len' cap']] w (TwoPost (anyEqual n s t l n' s' t' l') w) := by
  unfold TwoPost
  have Hl := Lib.hid hl
  have Hl' := Lib.hid hl'
  clear hl hl'
  go_enter Tryd.func9, Tryd.ntmps9
  go_wp2_with (go_at_call 19; refine (anyEq_any (.mk 0 n s t l) (.mk 0 n' s' t' l') _ _ _ _ _ _ _ (Hl.out.keep (keeps_of_below (by repeat' (first | with_reducible assumption | with_reducible exact Below.refl _ _ | with_reducible refine Below.setCell ?_ ?_ _ | with_reducible refine Below.alloc ?_ ?_ _ | with_reducible refine Below.drew ?_ | with_reducible refine below_drewN ?_ _ | omega | (simp; done) | (simp; omega))))) (Hl'.out.keep (keeps_of_below (by repeat' (first | with_reducible assumption | with_reducible exact Below.refl _ _ | with_reducible refine Below.setCell ?_ ?_ _ | with_reducible refine Below.alloc ?_ ?_ _ | with_reducible refine Below.drew ?_ | with_reducible refine below_drewN ?_ _ | omega | (simp; done) | (simp; omega)))))).mono ?_; rintro e w2 ⟨rfl, hb2⟩; have hB2 := keeps_below (show Below w.heap.size w _ from (by repeat' (first | with_reducible assumption | with_reducible exact Below.refl _ _ | with_reducible refine Below.setCell ?_ ?_ _ | with_reducible refine Below.alloc ?_ ?_ _ | with_reducible refine Below.drew ?_ | with_reducible refine below_drewN ?_ _ | omega | (simp; done) | (simp; omega)))) hb2; simp only [n_mk, s_mk, t_mk, l_mk])
  go_ret2
  exact ⟨rfl, hB2⟩

end

end Go.Proofs.YtcgdnjigocknbaaDoor.Va

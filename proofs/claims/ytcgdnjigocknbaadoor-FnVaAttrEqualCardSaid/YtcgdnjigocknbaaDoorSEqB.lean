/- When package slog has two values be equal (Value.Equal): by kinds. -/
import Derived.Test.YtcgdnjigocknbaaDoorSEqA
import Derived.Test.YtcgdnjigocknbaaDoorKind
import Derived.Test.YtcgdnjigocknbaaDoorEqC
namespace Go.Proofs.YtcgdnjigocknbaaDoor.Va
set_option linter.unusedVariables false
set_option linter.unusedSimpArgs false
open Go Go.RowKit

mutual
def sEqual : SVal → SVal → Bool × Bool
  | .num k n, .num k' n' => if k ≠ k' then (false, false) else if k = 3 then (feq n n', false) else (decide (n = n'), false)
  | .str s, .str s' => (decide (s = s'), false)
  | .time t, .time t' => (decide (t.sec = t'.sec) && decide (t.nsec = t'.nsec), false)
  | .group l, .group l' => if l.len ≠ l'.len then (false, false) else sEqualAll l l'
  | .any g, .any g' => (gEq g g', gBad g g')
  | .valuer _ _ _, .valuer _ _ _ => (false, true)
  | .throws s _, .throws s' _ => (decide (s = s'), false)
  | _, _ => (false, false)
def sEqualAll : SAttrs → SAttrs → Bool × Bool
  | .cons key v r, .cons key' v' r' =>
    if key ≠ key' then (false, false)
    else if (sEqual v v').2 = true ∨ (sEqual v v').1 = false then sEqual v v'
    else sEqualAll r r'
  | _, _ => (true, false)
end

/-- How Equal ends: with an answer, or with a panic. -/
def EqEnd (r : Bool × Bool) (w : World) (e : Ending) (w' : World) : Prop :=
  ((r.2 = false ∧ e = .returned (.bool r.1)) ∨ (r.2 = true ∧ ∃ t x, e = .panicked [{ v := .iface t x, recovered := false }])) ∧ Below w.heap.size w w'

theorem sEqual_ne {d d' : SVal} (h : d.kind ≠ d'.kind) : sEqual d d' = (false, false) := by
  cases d <;> cases d' <;> first
    | (unfold sEqual; rfl)
    | (exact absurd rfl h)
    | (unfold sEqual; exact if_pos h)

set_option maxRecDepth 100000 in
set_option maxHeartbeats 400000 in
theorem equal_ne {P P' : Nat → Prop} (d d' : SVal) (hk : d.kind ≠ d'.kind) (w : World) (i i' : Int) (y y' : Value) (h : RSV P w d (.int .u64 i) y) (h' : RSV P' w d' (.int .u64 i') y') :
    Calls Tryd.prog 26 #[.agg #[.int .u64 i, y], .agg #[.int .u64 i', y']] w (EqEnd (false, false) w) := by
  have cK := fun wx (hx : Keeps w wx) => kind_any d wx _ _ (h.keep hx)
  have cK' := fun wx (hx : Keeps w wx) => kind_any d' wx _ _ (h'.keep hx)
  generalize d.kind = k at cK hk
  generalize d'.kind = k' at cK' hk
  obtain ⟨Q, hQ⟩ : ∃ Q, Q = EqEnd (false, false) w := ⟨_, rfl⟩
  rw [← hQ]
  have HQ := Lib.hid hQ
  have CK := Lib.hid cK
  have CK' := Lib.hid cK'
  clear cK cK' h h' hQ
  go_enter Tryd.func26, Tryd.ntmps26
  go_wp2_with (first
    | (go_at_call 53; with_reducible refine (CK.out _ (keeps_of_below (by repeat' (first | with_reducible assumption | with_reducible exact Below.refl _ _ | with_reducible refine Below.setCell ?_ ?_ _ | with_reducible refine Below.alloc ?_ ?_ _ | with_reducible refine Below.drew ?_ | with_reducible refine below_drewN ?_ _ | omega | (simp; done) | (simp; omega))))).mono ?_; rintro e w1 ⟨rfl, hb1⟩; have hB1 := Lib.hid (keeps_below (show Below w.heap.size w _ from (by repeat' (first | with_reducible assumption | with_reducible exact Below.refl _ _ | with_reducible refine Below.setCell ?_ ?_ _ | with_reducible refine Below.alloc ?_ ?_ _ | with_reducible refine Below.drew ?_ | with_reducible refine below_drewN ?_ _ | omega | (simp; done) | (simp; omega)))) hb1); obtain ⟨c1, f1⟩ := bcell hb1; have hs1 : w.heap.size + 1 < w1.heap.size := (by have := hb1.size; simp at this; omega); have a0 : w1.cell? ⟨w.heap.size, 0, none⟩ = some _ := ((c1 _ 0 (by first | omega | (simp; done) | (simp; omega))).trans (by simp; rfl)); have a1 : w1.cell? ⟨w.heap.size, 1, none⟩ = some _ := ((c1 _ 1 (by first | omega | (simp; done) | (simp; omega))).trans (by simp; rfl)); have b0 : w1.cell? ⟨w.heap.size + 1, 0, none⟩ = some _ := ((c1 _ 0 (by first | omega | (simp; done) | (simp; omega))).trans (by simp; rfl)); have b1 : w1.cell? ⟨w.heap.size + 1, 1, none⟩ = some _ := ((c1 _ 1 (by first | omega | (simp; done) | (simp; omega))).trans (by simp; rfl)); clear c1 f1 hb1)
    | (go_at_call 53; with_reducible refine (CK'.out _ (keeps_of_below hB1.out)).mono ?_; rintro e w2 ⟨rfl, hb2⟩; have hB2 := Lib.hid (keeps_below hB1.out hb2); obtain ⟨c2, f2⟩ := bcell hb2; have hs2 : w.heap.size + 1 < w2.heap.size := (by have := hb2.size; omega); have hs20 : w.heap.size < w2.heap.size := (by omega); have a20 := (c2 w.heap.size 0 (by omega)).trans a0; have a21 := (c2 w.heap.size 1 (by omega)).trans a1; have b20 := (c2 (w.heap.size + 1) 0 (by omega)).trans b0; have b21 := (c2 (w.heap.size + 1) 1 (by omega)).trans b1; clear c2 f2 hb2 a0 a1 b0 b1))
  rw [HQ.out]
  exact ⟨.inl ⟨rfl, rfl⟩, hB2.out⟩

set_option maxRecDepth 100000 in
set_option maxHeartbeats 400000 in
theorem equal_num1 {P P' : Nat → Prop} (n n' : Int) (w : World) (h : RSV P w (.num 1 n) (.int .u64 n) (.iface 90 (.int .i64 1))) (h' : RSV P' w (.num 1 n') (.int .u64 n') (.iface 90 (.int .i64 1))) :
    Calls Tryd.prog 26 #[.agg #[.int .u64 n, (.iface 90 (.int .i64 1))], .agg #[.int .u64 n', (.iface 90 (.int .i64 1))]] w (EqEnd (decide (n = n'), false) w) := by
  have cK := fun wx (hx : Keeps w wx) => kind_any (.num 1 n) wx _ _ (h.keep hx)
  have cK' := fun wx (hx : Keeps w wx) => kind_any (.num 1 n') wx _ _ (h'.keep hx)
  simp only [SVal.kind] at cK cK'
  obtain ⟨Q, hQ⟩ : ∃ Q, Q = EqEnd (decide (n = n'), false) w := ⟨_, rfl⟩
  rw [← hQ]
  have HQ := Lib.hid hQ
  have CK := Lib.hid cK
  have CK' := Lib.hid cK'
  clear cK cK' h h' hQ
  go_enter Tryd.func26, Tryd.ntmps26
  go_wp2_with (first
    | (go_at_call 53; with_reducible refine (CK.out _ (keeps_of_below (by repeat' (first | with_reducible assumption | with_reducible exact Below.refl _ _ | with_reducible refine Below.setCell ?_ ?_ _ | with_reducible refine Below.alloc ?_ ?_ _ | with_reducible refine Below.drew ?_ | with_reducible refine below_drewN ?_ _ | omega | (simp; done) | (simp; omega))))).mono ?_; rintro e w1 ⟨rfl, hb1⟩; have hB1 := Lib.hid (keeps_below (show Below w.heap.size w _ from (by repeat' (first | with_reducible assumption | with_reducible exact Below.refl _ _ | with_reducible refine Below.setCell ?_ ?_ _ | with_reducible refine Below.alloc ?_ ?_ _ | with_reducible refine Below.drew ?_ | with_reducible refine below_drewN ?_ _ | omega | (simp; done) | (simp; omega)))) hb1); obtain ⟨c1, f1⟩ := bcell hb1; have hs1 : w.heap.size + 1 < w1.heap.size := (by have := hb1.size; simp at this; omega); have a0 : w1.cell? ⟨w.heap.size, 0, none⟩ = some _ := ((c1 _ 0 (by first | omega | (simp; done) | (simp; omega))).trans (by simp; rfl)); have a1 : w1.cell? ⟨w.heap.size, 1, none⟩ = some _ := ((c1 _ 1 (by first | omega | (simp; done) | (simp; omega))).trans (by simp; rfl)); have b0 : w1.cell? ⟨w.heap.size + 1, 0, none⟩ = some _ := ((c1 _ 0 (by first | omega | (simp; done) | (simp; omega))).trans (by simp; rfl)); have b1 : w1.cell? ⟨w.heap.size + 1, 1, none⟩ = some _ := ((c1 _ 1 (by first | omega | (simp; done) | (simp; omega))).trans (by simp; rfl)); clear c1 f1 hb1)
    | (go_at_call 53; with_reducible refine (CK'.out _ (keeps_of_below hB1.out)).mono ?_; rintro e w2 ⟨rfl, hb2⟩; have hB2 := Lib.hid (keeps_below hB1.out hb2); obtain ⟨c2, f2⟩ := bcell hb2; have hs2 : w.heap.size + 1 < w2.heap.size := (by have := hb2.size; omega); have hs20 : w.heap.size < w2.heap.size := (by omega); have a20 := (c2 w.heap.size 0 (by omega)).trans a0; have a21 := (c2 w.heap.size 1 (by omega)).trans a1; have b20 := (c2 (w.heap.size + 1) 0 (by omega)).trans b0; have b21 := (c2 (w.heap.size + 1) 1 (by omega)).trans b1; clear c2 f2 hb2 a0 a1 b0 b1))
  rw [HQ.out]
  exact ⟨.inl ⟨rfl, by simp [int_beq]⟩, hB2.out⟩

set_option maxRecDepth 100000 in
set_option maxHeartbeats 400000 in
theorem equal_num2 {P P' : Nat → Prop} (n n' : Int) (w : World) (h : RSV P w (.num 2 n) (.int .u64 n) (.iface 90 (.int .i64 2))) (h' : RSV P' w (.num 2 n') (.int .u64 n') (.iface 90 (.int .i64 2))) :
    Calls Tryd.prog 26 #[.agg #[.int .u64 n, (.iface 90 (.int .i64 2))], .agg #[.int .u64 n', (.iface 90 (.int .i64 2))]] w (EqEnd (decide (n = n'), false) w) := by
  have cK := fun wx (hx : Keeps w wx) => kind_any (.num 2 n) wx _ _ (h.keep hx)
  have cK' := fun wx (hx : Keeps w wx) => kind_any (.num 2 n') wx _ _ (h'.keep hx)
  simp only [SVal.kind] at cK cK'
  obtain ⟨Q, hQ⟩ : ∃ Q, Q = EqEnd (decide (n = n'), false) w := ⟨_, rfl⟩
  rw [← hQ]
  have HQ := Lib.hid hQ
  have CK := Lib.hid cK
  have CK' := Lib.hid cK'
  clear cK cK' h h' hQ
  go_enter Tryd.func26, Tryd.ntmps26
  go_wp2_with (first
    | (go_at_call 53; with_reducible refine (CK.out _ (keeps_of_below (by repeat' (first | with_reducible assumption | with_reducible exact Below.refl _ _ | with_reducible refine Below.setCell ?_ ?_ _ | with_reducible refine Below.alloc ?_ ?_ _ | with_reducible refine Below.drew ?_ | with_reducible refine below_drewN ?_ _ | omega | (simp; done) | (simp; omega))))).mono ?_; rintro e w1 ⟨rfl, hb1⟩; have hB1 := Lib.hid (keeps_below (show Below w.heap.size w _ from (by repeat' (first | with_reducible assumption | with_reducible exact Below.refl _ _ | with_reducible refine Below.setCell ?_ ?_ _ | with_reducible refine Below.alloc ?_ ?_ _ | with_reducible refine Below.drew ?_ | with_reducible refine below_drewN ?_ _ | omega | (simp; done) | (simp; omega)))) hb1); obtain ⟨c1, f1⟩ := bcell hb1; have hs1 : w.heap.size + 1 < w1.heap.size := (by have := hb1.size; simp at this; omega); have a0 : w1.cell? ⟨w.heap.size, 0, none⟩ = some _ := ((c1 _ 0 (by first | omega | (simp; done) | (simp; omega))).trans (by simp; rfl)); have a1 : w1.cell? ⟨w.heap.size, 1, none⟩ = some _ := ((c1 _ 1 (by first | omega | (simp; done) | (simp; omega))).trans (by simp; rfl)); have b0 : w1.cell? ⟨w.heap.size + 1, 0, none⟩ = some _ := ((c1 _ 0 (by first | omega | (simp; done) | (simp; omega))).trans (by simp; rfl)); have b1 : w1.cell? ⟨w.heap.size + 1, 1, none⟩ = some _ := ((c1 _ 1 (by first | omega | (simp; done) | (simp; omega))).trans (by simp; rfl)); clear c1 f1 hb1)
    | (go_at_call 53; with_reducible refine (CK'.out _ (keeps_of_below hB1.out)).mono ?_; rintro e w2 ⟨rfl, hb2⟩; have hB2 := Lib.hid (keeps_below hB1.out hb2); obtain ⟨c2, f2⟩ := bcell hb2; have hs2 : w.heap.size + 1 < w2.heap.size := (by have := hb2.size; omega); have hs20 : w.heap.size < w2.heap.size := (by omega); have a20 := (c2 w.heap.size 0 (by omega)).trans a0; have a21 := (c2 w.heap.size 1 (by omega)).trans a1; have b20 := (c2 (w.heap.size + 1) 0 (by omega)).trans b0; have b21 := (c2 (w.heap.size + 1) 1 (by omega)).trans b1; clear c2 f2 hb2 a0 a1 b0 b1))
  rw [HQ.out]
  exact ⟨.inl ⟨rfl, by simp [int_beq]⟩, hB2.out⟩

set_option maxRecDepth 100000 in
set_option maxHeartbeats 400000 in
theorem equal_num4 {P P' : Nat → Prop} (n n' : Int) (w : World) (h : RSV P w (.num 4 n) (.int .u64 n) (.iface 90 (.int .i64 4))) (h' : RSV P' w (.num 4 n') (.int .u64 n') (.iface 90 (.int .i64 4))) :
    Calls Tryd.prog 26 #[.agg #[.int .u64 n, (.iface 90 (.int .i64 4))], .agg #[.int .u64 n', (.iface 90 (.int .i64 4))]] w (EqEnd (decide (n = n'), false) w) := by
  have cK := fun wx (hx : Keeps w wx) => kind_any (.num 4 n) wx _ _ (h.keep hx)
  have cK' := fun wx (hx : Keeps w wx) => kind_any (.num 4 n') wx _ _ (h'.keep hx)
  simp only [SVal.kind] at cK cK'
  obtain ⟨Q, hQ⟩ : ∃ Q, Q = EqEnd (decide (n = n'), false) w := ⟨_, rfl⟩
  rw [← hQ]
  have HQ := Lib.hid hQ
  have CK := Lib.hid cK
  have CK' := Lib.hid cK'
  clear cK cK' h h' hQ
  go_enter Tryd.func26, Tryd.ntmps26
  go_wp2_with (first
    | (go_at_call 53; with_reducible refine (CK.out _ (keeps_of_below (by repeat' (first | with_reducible assumption | with_reducible exact Below.refl _ _ | with_reducible refine Below.setCell ?_ ?_ _ | with_reducible refine Below.alloc ?_ ?_ _ | with_reducible refine Below.drew ?_ | with_reducible refine below_drewN ?_ _ | omega | (simp; done) | (simp; omega))))).mono ?_; rintro e w1 ⟨rfl, hb1⟩; have hB1 := Lib.hid (keeps_below (show Below w.heap.size w _ from (by repeat' (first | with_reducible assumption | with_reducible exact Below.refl _ _ | with_reducible refine Below.setCell ?_ ?_ _ | with_reducible refine Below.alloc ?_ ?_ _ | with_reducible refine Below.drew ?_ | with_reducible refine below_drewN ?_ _ | omega | (simp; done) | (simp; omega)))) hb1); obtain ⟨c1, f1⟩ := bcell hb1; have hs1 : w.heap.size + 1 < w1.heap.size := (by have := hb1.size; simp at this; omega); have a0 : w1.cell? ⟨w.heap.size, 0, none⟩ = some _ := ((c1 _ 0 (by first | omega | (simp; done) | (simp; omega))).trans (by simp; rfl)); have a1 : w1.cell? ⟨w.heap.size, 1, none⟩ = some _ := ((c1 _ 1 (by first | omega | (simp; done) | (simp; omega))).trans (by simp; rfl)); have b0 : w1.cell? ⟨w.heap.size + 1, 0, none⟩ = some _ := ((c1 _ 0 (by first | omega | (simp; done) | (simp; omega))).trans (by simp; rfl)); have b1 : w1.cell? ⟨w.heap.size + 1, 1, none⟩ = some _ := ((c1 _ 1 (by first | omega | (simp; done) | (simp; omega))).trans (by simp; rfl)); clear c1 f1 hb1)
    | (go_at_call 53; with_reducible refine (CK'.out _ (keeps_of_below hB1.out)).mono ?_; rintro e w2 ⟨rfl, hb2⟩; have hB2 := Lib.hid (keeps_below hB1.out hb2); obtain ⟨c2, f2⟩ := bcell hb2; have hs2 : w.heap.size + 1 < w2.heap.size := (by have := hb2.size; omega); have hs20 : w.heap.size < w2.heap.size := (by omega); have a20 := (c2 w.heap.size 0 (by omega)).trans a0; have a21 := (c2 w.heap.size 1 (by omega)).trans a1; have b20 := (c2 (w.heap.size + 1) 0 (by omega)).trans b0; have b21 := (c2 (w.heap.size + 1) 1 (by omega)).trans b1; clear c2 f2 hb2 a0 a1 b0 b1))
  rw [HQ.out]
  exact ⟨.inl ⟨rfl, by simp [int_beq]⟩, hB2.out⟩

set_option maxRecDepth 100000 in
set_option maxHeartbeats 400000 in
theorem equal_num7 {P P' : Nat → Prop} (n n' : Int) (w : World) (h : RSV P w (.num 7 n) (.int .u64 n) (.iface 90 (.int .i64 7))) (h' : RSV P' w (.num 7 n') (.int .u64 n') (.iface 90 (.int .i64 7))) :
    Calls Tryd.prog 26 #[.agg #[.int .u64 n, (.iface 90 (.int .i64 7))], .agg #[.int .u64 n', (.iface 90 (.int .i64 7))]] w (EqEnd (decide (n = n'), false) w) := by
  have cK := fun wx (hx : Keeps w wx) => kind_any (.num 7 n) wx _ _ (h.keep hx)
  have cK' := fun wx (hx : Keeps w wx) => kind_any (.num 7 n') wx _ _ (h'.keep hx)
  simp only [SVal.kind] at cK cK'
  obtain ⟨Q, hQ⟩ : ∃ Q, Q = EqEnd (decide (n = n'), false) w := ⟨_, rfl⟩
  rw [← hQ]
  have HQ := Lib.hid hQ
  have CK := Lib.hid cK
  have CK' := Lib.hid cK'
  clear cK cK' h h' hQ
  go_enter Tryd.func26, Tryd.ntmps26
  go_wp2_with (first
    | (go_at_call 53; with_reducible refine (CK.out _ (keeps_of_below (by repeat' (first | with_reducible assumption | with_reducible exact Below.refl _ _ | with_reducible refine Below.setCell ?_ ?_ _ | with_reducible refine Below.alloc ?_ ?_ _ | with_reducible refine Below.drew ?_ | with_reducible refine below_drewN ?_ _ | omega | (simp; done) | (simp; omega))))).mono ?_; rintro e w1 ⟨rfl, hb1⟩; have hB1 := Lib.hid (keeps_below (show Below w.heap.size w _ from (by repeat' (first | with_reducible assumption | with_reducible exact Below.refl _ _ | with_reducible refine Below.setCell ?_ ?_ _ | with_reducible refine Below.alloc ?_ ?_ _ | with_reducible refine Below.drew ?_ | with_reducible refine below_drewN ?_ _ | omega | (simp; done) | (simp; omega)))) hb1); obtain ⟨c1, f1⟩ := bcell hb1; have hs1 : w.heap.size + 1 < w1.heap.size := (by have := hb1.size; simp at this; omega); have a0 : w1.cell? ⟨w.heap.size, 0, none⟩ = some _ := ((c1 _ 0 (by first | omega | (simp; done) | (simp; omega))).trans (by simp; rfl)); have a1 : w1.cell? ⟨w.heap.size, 1, none⟩ = some _ := ((c1 _ 1 (by first | omega | (simp; done) | (simp; omega))).trans (by simp; rfl)); have b0 : w1.cell? ⟨w.heap.size + 1, 0, none⟩ = some _ := ((c1 _ 0 (by first | omega | (simp; done) | (simp; omega))).trans (by simp; rfl)); have b1 : w1.cell? ⟨w.heap.size + 1, 1, none⟩ = some _ := ((c1 _ 1 (by first | omega | (simp; done) | (simp; omega))).trans (by simp; rfl)); clear c1 f1 hb1)
    | (go_at_call 53; with_reducible refine (CK'.out _ (keeps_of_below hB1.out)).mono ?_; rintro e w2 ⟨rfl, hb2⟩; have hB2 := Lib.hid (keeps_below hB1.out hb2); obtain ⟨c2, f2⟩ := bcell hb2; have hs2 : w.heap.size + 1 < w2.heap.size := (by have := hb2.size; omega); have hs20 : w.heap.size < w2.heap.size := (by omega); have a20 := (c2 w.heap.size 0 (by omega)).trans a0; have a21 := (c2 w.heap.size 1 (by omega)).trans a1; have b20 := (c2 (w.heap.size + 1) 0 (by omega)).trans b0; have b21 := (c2 (w.heap.size + 1) 1 (by omega)).trans b1; clear c2 f2 hb2 a0 a1 b0 b1))
  rw [HQ.out]
  exact ⟨.inl ⟨rfl, by simp [int_beq]⟩, hB2.out⟩

set_option maxRecDepth 100000 in
set_option maxHeartbeats 400000 in
theorem str_any (i : Int) (s : ByteArray) (w : World) : Calls Tryd.prog 54 #[.agg #[.int .u64 i, .iface 99 (.string s)]] w fun e w' => e = .returned (.string s) ∧ Below w.heap.size w w' := by
  go_enter Tryd.func54, Tryd.ntmps54
  go_wp2
  go_ret
  exact ⟨rfl, (by repeat' (first | with_reducible assumption | with_reducible exact Below.refl _ _ | with_reducible refine Below.setCell ?_ ?_ _ | with_reducible refine Below.alloc ?_ ?_ _ | with_reducible refine Below.drew ?_ | with_reducible refine below_drewN ?_ _ | omega | (simp; done) | (simp; omega)))⟩
theorem frombits_any (n : Int) (w : World) : Calls Tryd.prog 55 #[.agg #[.int .u64 n, .iface 90 (.int .i64 3)]] w fun e w' => e = .returned (.float .f64 n.toNat) ∧ Below w.heap.size w w' := by
  have h1 := frombits_run
  go_enter Tryd.func55, Tryd.ntmps55
  go_wp2
  go_ret
  exact ⟨rfl, (by repeat' (first | with_reducible assumption | with_reducible exact Below.refl _ _ | with_reducible refine Below.setCell ?_ ?_ _ | with_reducible refine Below.alloc ?_ ?_ _ | with_reducible refine Below.drew ?_ | with_reducible refine below_drewN ?_ _ | omega | (simp; done) | (simp; omega)))⟩

set_option maxRecDepth 100000 in
set_option maxHeartbeats 400000 in
theorem equal_str {P P' : Nat → Prop} (s s' : ByteArray) (w : World) (h : RSV P w (.str s) (.int .u64 s.size) (.iface 99 (.string s))) (h' : RSV P' w (.str s') (.int .u64 s'.size) (.iface 99 (.string s'))) :
    Calls Tryd.prog 26 #[.agg #[.int .u64 s.size, (.iface 99 (.string s))], .agg #[.int .u64 s'.size, (.iface 99 (.string s'))]] w (EqEnd (decide (s = s'), false) w) := by
  have cK := fun wx (hx : Keeps w wx) => kind_any (.str s) wx _ _ (h.keep hx)
  have cK' := fun wx (hx : Keeps w wx) => kind_any (.str s') wx _ _ (h'.keep hx)
  simp only [SVal.kind] at cK cK'
  obtain ⟨Q, hQ⟩ : ∃ Q, Q = EqEnd (decide (s = s'), false) w := ⟨_, rfl⟩
  rw [← hQ]
  have HQ := Lib.hid hQ
  have CK := Lib.hid cK
  have CK' := Lib.hid cK'
  clear cK cK' h h' hQ
  go_enter Tryd.func26, Tryd.ntmps26
  go_wp2_with (first
    | (go_at_call 53; with_reducible refine (CK.out _ (keeps_of_below (by repeat' (first | with_reducible assumption | with_reducible exact Below.refl _ _ | with_reducible refine Below.setCell ?_ ?_ _ | with_reducible refine Below.alloc ?_ ?_ _ | with_reducible refine Below.drew ?_ | with_reducible refine below_drewN ?_ _ | omega | (simp; done) | (simp; omega))))).mono ?_; rintro e w1 ⟨rfl, hb1⟩; have hB1 := Lib.hid (keeps_below (show Below w.heap.size w _ from (by repeat' (first | with_reducible assumption | with_reducible exact Below.refl _ _ | with_reducible refine Below.setCell ?_ ?_ _ | with_reducible refine Below.alloc ?_ ?_ _ | with_reducible refine Below.drew ?_ | with_reducible refine below_drewN ?_ _ | omega | (simp; done) | (simp; omega)))) hb1); obtain ⟨c1, f1⟩ := bcell hb1; have hs1 : w.heap.size + 1 < w1.heap.size := (by have := hb1.size; simp at this; omega); have a0 : w1.cell? ⟨w.heap.size, 0, none⟩ = some _ := ((c1 _ 0 (by first | omega | (simp; done) | (simp; omega))).trans (by simp; rfl)); have a1 : w1.cell? ⟨w.heap.size, 1, none⟩ = some _ := ((c1 _ 1 (by first | omega | (simp; done) | (simp; omega))).trans (by simp; rfl)); have b0 : w1.cell? ⟨w.heap.size + 1, 0, none⟩ = some _ := ((c1 _ 0 (by first | omega | (simp; done) | (simp; omega))).trans (by simp; rfl)); have b1 : w1.cell? ⟨w.heap.size + 1, 1, none⟩ = some _ := ((c1 _ 1 (by first | omega | (simp; done) | (simp; omega))).trans (by simp; rfl)); clear c1 f1 hb1)
    | (go_at_call 53; with_reducible refine (CK'.out _ (keeps_of_below hB1.out)).mono ?_; rintro e w2 ⟨rfl, hb2⟩; have hB2 := Lib.hid (keeps_below hB1.out hb2); obtain ⟨c2, f2⟩ := bcell hb2; have hs2 : w.heap.size + 1 < w2.heap.size := (by have := hb2.size; omega); have hs20 : w.heap.size < w2.heap.size := (by omega); have a20 := (c2 w.heap.size 0 (by omega)).trans a0; have a21 := (c2 w.heap.size 1 (by omega)).trans a1; have b20 := (c2 (w.heap.size + 1) 0 (by omega)).trans b0; have b21 := (c2 (w.heap.size + 1) 1 (by omega)).trans b1; clear c2 f2 hb2 a0 a1 b0 b1))
  go_region_held3 (fun w' => w'.cell? ⟨w.heap.size, 0, none⟩ = some (.int .u64 s.size) ∧ w'.cell? ⟨w.heap.size, 1, none⟩ = some ((.iface 99 (.string s))) ∧ w'.cell? ⟨w.heap.size + 1, 0, none⟩ = some (.int .u64 s'.size) ∧ w'.cell? ⟨w.heap.size + 1, 1, none⟩ = some ((.iface 99 (.string s')))) (first | exact ⟨(hc4 _ 0 hs30).trans ((hc3 _ 0 hs20).trans a20), (hc4 _ 1 hs30).trans ((hc3 _ 1 hs20).trans a21), (hc4 _ 0 hs31).trans ((hc3 _ 0 hs2).trans b20), (hc4 _ 1 hs31).trans ((hc3 _ 1 hs2).trans b21)⟩ | exact ⟨(hc3 _ 0 hs20).trans a20, (hc3 _ 1 hs20).trans a21, (hc3 _ 0 hs2).trans b20, (hc3 _ 1 hs2).trans b21⟩ | go_keep) (first
    | (go_at_call 54; first | ((with_reducible refine (str_any _ s _).mono ?_); rintro e w3 ⟨rfl, hb3⟩; obtain ⟨hc3, hf3⟩ := bcell hb3; have hs30 : w.heap.size < w3.heap.size := Nat.lt_of_lt_of_le hs20 hb3.size; have hs31 : w.heap.size + 1 < w3.heap.size := Nat.lt_of_lt_of_le hs2 hb3.size) | ((with_reducible refine (str_any _ s' _).mono ?_); rintro e w4 ⟨rfl, hb4⟩; obtain ⟨hc4, hf4⟩ := bcell hb4; have hs40 : w.heap.size < w4.heap.size := Nat.lt_of_lt_of_le hs30 hb4.size; have hs41 : w.heap.size + 1 < w4.heap.size := Nat.lt_of_lt_of_le hs31 hb4.size)))
  go_wp2
  rw [HQ.out]
  exact ⟨.inl ⟨rfl, by simp [toList_beq]⟩, keeps_below (keeps_below hB2.out.drew hb3) hb4⟩

set_option maxRecDepth 100000 in
set_option maxHeartbeats 400000 in
theorem equal_float {P P' : Nat → Prop} (n n' : Int) (w : World) (h : RSV P w (.num 3 n) (.int .u64 n) (.iface 90 (.int .i64 3))) (h' : RSV P' w (.num 3 n') (.int .u64 n') (.iface 90 (.int .i64 3))) :
    Calls Tryd.prog 26 #[.agg #[.int .u64 n, (.iface 90 (.int .i64 3))], .agg #[.int .u64 n', (.iface 90 (.int .i64 3))]] w (EqEnd (feq n n', false) w) := by
  have cK := fun wx (hx : Keeps w wx) => kind_any (.num 3 n) wx _ _ (h.keep hx)
  have cK' := fun wx (hx : Keeps w wx) => kind_any (.num 3 n') wx _ _ (h'.keep hx)
  simp only [SVal.kind] at cK cK'
  obtain ⟨Q, hQ⟩ : ∃ Q, Q = EqEnd (feq n n', false) w := ⟨_, rfl⟩
  rw [← hQ]
  have HQ := Lib.hid hQ
  have CK := Lib.hid cK
  have CK' := Lib.hid cK'
  clear cK cK' h h' hQ
  go_enter Tryd.func26, Tryd.ntmps26
  go_wp2_with (first
    | (go_at_call 53; with_reducible refine (CK.out _ (keeps_of_below (by repeat' (first | with_reducible assumption | with_reducible exact Below.refl _ _ | with_reducible refine Below.setCell ?_ ?_ _ | with_reducible refine Below.alloc ?_ ?_ _ | with_reducible refine Below.drew ?_ | with_reducible refine below_drewN ?_ _ | omega | (simp; done) | (simp; omega))))).mono ?_; rintro e w1 ⟨rfl, hb1⟩; have hB1 := Lib.hid (keeps_below (show Below w.heap.size w _ from (by repeat' (first | with_reducible assumption | with_reducible exact Below.refl _ _ | with_reducible refine Below.setCell ?_ ?_ _ | with_reducible refine Below.alloc ?_ ?_ _ | with_reducible refine Below.drew ?_ | with_reducible refine below_drewN ?_ _ | omega | (simp; done) | (simp; omega)))) hb1); obtain ⟨c1, f1⟩ := bcell hb1; have hs1 : w.heap.size + 1 < w1.heap.size := (by have := hb1.size; simp at this; omega); have a0 : w1.cell? ⟨w.heap.size, 0, none⟩ = some _ := ((c1 _ 0 (by first | omega | (simp; done) | (simp; omega))).trans (by simp; rfl)); have a1 : w1.cell? ⟨w.heap.size, 1, none⟩ = some _ := ((c1 _ 1 (by first | omega | (simp; done) | (simp; omega))).trans (by simp; rfl)); have b0 : w1.cell? ⟨w.heap.size + 1, 0, none⟩ = some _ := ((c1 _ 0 (by first | omega | (simp; done) | (simp; omega))).trans (by simp; rfl)); have b1 : w1.cell? ⟨w.heap.size + 1, 1, none⟩ = some _ := ((c1 _ 1 (by first | omega | (simp; done) | (simp; omega))).trans (by simp; rfl)); clear c1 f1 hb1)
    | (go_at_call 53; with_reducible refine (CK'.out _ (keeps_of_below hB1.out)).mono ?_; rintro e w2 ⟨rfl, hb2⟩; have hB2 := Lib.hid (keeps_below hB1.out hb2); obtain ⟨c2, f2⟩ := bcell hb2; have hs2 : w.heap.size + 1 < w2.heap.size := (by have := hb2.size; omega); have hs20 : w.heap.size < w2.heap.size := (by omega); have a20 := (c2 w.heap.size 0 (by omega)).trans a0; have a21 := (c2 w.heap.size 1 (by omega)).trans a1; have b20 := (c2 (w.heap.size + 1) 0 (by omega)).trans b0; have b21 := (c2 (w.heap.size + 1) 1 (by omega)).trans b1; clear c2 f2 hb2 a0 a1 b0 b1))
  go_region_held3 (fun w' => w'.cell? ⟨w.heap.size, 0, none⟩ = some (.int .u64 n) ∧ w'.cell? ⟨w.heap.size, 1, none⟩ = some ((.iface 90 (.int .i64 3))) ∧ w'.cell? ⟨w.heap.size + 1, 0, none⟩ = some (.int .u64 n') ∧ w'.cell? ⟨w.heap.size + 1, 1, none⟩ = some ((.iface 90 (.int .i64 3)))) (first | exact ⟨(hc4 _ 0 hs30).trans ((hc3 _ 0 hs20).trans a20), (hc4 _ 1 hs30).trans ((hc3 _ 1 hs20).trans a21), (hc4 _ 0 hs31).trans ((hc3 _ 0 hs2).trans b20), (hc4 _ 1 hs31).trans ((hc3 _ 1 hs2).trans b21)⟩ | exact ⟨(hc3 _ 0 hs20).trans a20, (hc3 _ 1 hs20).trans a21, (hc3 _ 0 hs2).trans b20, (hc3 _ 1 hs2).trans b21⟩ | go_keep) (first
    | (go_at_call 55; first | ((with_reducible refine (frombits_any n _).mono ?_); rintro e w3 ⟨rfl, hb3⟩; obtain ⟨hc3, hf3⟩ := bcell hb3; have hs30 : w.heap.size < w3.heap.size := Nat.lt_of_lt_of_le hs20 hb3.size; have hs31 : w.heap.size + 1 < w3.heap.size := Nat.lt_of_lt_of_le hs2 hb3.size) | ((with_reducible refine (frombits_any n' _).mono ?_); rintro e w4 ⟨rfl, hb4⟩; obtain ⟨hc4, hf4⟩ := bcell hb4; have hs40 : w.heap.size < w4.heap.size := Nat.lt_of_lt_of_le hs30 hb4.size; have hs41 : w.heap.size + 1 < w4.heap.size := Nat.lt_of_lt_of_le hs31 hb4.size)))
  go_wp2
  rw [HQ.out]
  exact ⟨.inl ⟨rfl, rfl⟩, keeps_below (keeps_below hB2.out.drew hb3) hb4⟩

theorem guard_any (x x' : Operand) {y y' : Value} (hy : y = .nilIface ∨ ∃ t v, y = .iface t v) (hy' : y' = .nilIface ∨ ∃ t v, y' = .iface t v) (w : World) : (eqGuard .eql 20 x x' y y').run Tryd.prog w = .ok () w := by
  rcases hy with rfl | ⟨t, v, rfl⟩
  · rcases hy' with rfl | ⟨t', v', rfl⟩
    · have h : (Op.eqGuardIn Op.maxDepth 20 .nilIface .nilIface).run Tryd.prog w = .ok false w := by
        unfold Op.maxDepth
        rw [show (10000 : Nat) = 9999 + 1 from rfl]
        unfold Op.eqGuardIn
        simp [run_underlying Tryd.underlying20]
      unfold eqGuard
      simp only [Bool.not_true, Bool.false_eq_true, if_false]
      cases x <;> cases x' <;> simp [h]
    · rfl
  · rcases hy' with rfl | ⟨t', v', rfl⟩ <;> rfl
theorem shape_or {P : Nat → Prop} {w : World} {g : GAny} {v : Value} (h : RAny P w g v) : v = .nilIface ∨ ∃ t x, v = .iface t x := by
  rcases any_shape h with ⟨_, h⟩ | ⟨t, x, _, h⟩
  · exact .inl h
  · exact .inr ⟨t, x, h⟩

set_option maxRecDepth 100000 in
set_option maxHeartbeats 400000 in
theorem equal_any_ok {P P' : Nat → Prop} (hd : ∀ b, P b → ¬ P' b) (g g' : GAny) (hgb : gBad g g' = false) (y y' : Value) (w : World) (h : RSV P w (.any g) (.int .u64 0) y) (h' : RSV P' w (.any g') (.int .u64 0) y') :
    Calls Tryd.prog 26 #[.agg #[.int .u64 0, y], .agg #[.int .u64 0, y']] w (EqEnd (gEq g g', gBad g g') w) := by
  have hq : ∀ wx, Keeps w wx → AnyEnd g g' y y' wx := fun wx hx => any_eq hd (by have := h.keep hx; unfold RSV at this; exact this.2) (by have := h'.keep hx; unfold RSV at this; exact this.2)
  have Hq := Lib.hid hq
  have hG := fun x x' wx => guard_any x x' (shape_or (P := P) (w := w) (g := g) (by unfold RSV at h; exact h.2)) (shape_or (P := P') (w := w) (g := g') (by unfold RSV at h'; exact h'.2)) wx
  clear hq
  have cK := fun wx (hx : Keeps w wx) => kind_any (.any g) wx _ _ (h.keep hx)
  have cK' := fun wx (hx : Keeps w wx) => kind_any (.any g') wx _ _ (h'.keep hx)
  simp only [SVal.kind] at cK cK'
  obtain ⟨Q, hQ⟩ : ∃ Q, Q = EqEnd (gEq g g', gBad g g') w := ⟨_, rfl⟩
  rw [← hQ]
  have HQ := Lib.hid hQ
  have CK := Lib.hid cK
  have CK' := Lib.hid cK'
  clear cK cK' h h' hQ
  go_enter Tryd.func26, Tryd.ntmps26
  go_wp2_with (first
    | (go_at_call 53; with_reducible refine (CK.out _ (keeps_of_below (by repeat' (first | with_reducible assumption | with_reducible exact Below.refl _ _ | with_reducible refine Below.setCell ?_ ?_ _ | with_reducible refine Below.alloc ?_ ?_ _ | with_reducible refine Below.drew ?_ | with_reducible refine below_drewN ?_ _ | omega | (simp; done) | (simp; omega))))).mono ?_; rintro e w1 ⟨rfl, hb1⟩; have hB1 := Lib.hid (keeps_below (show Below w.heap.size w _ from (by repeat' (first | with_reducible assumption | with_reducible exact Below.refl _ _ | with_reducible refine Below.setCell ?_ ?_ _ | with_reducible refine Below.alloc ?_ ?_ _ | with_reducible refine Below.drew ?_ | with_reducible refine below_drewN ?_ _ | omega | (simp; done) | (simp; omega)))) hb1); obtain ⟨c1, f1⟩ := bcell hb1; have hs1 : w.heap.size + 1 < w1.heap.size := (by have := hb1.size; simp at this; omega); have a0 : w1.cell? ⟨w.heap.size, 0, none⟩ = some _ := ((c1 _ 0 (by first | omega | (simp; done) | (simp; omega))).trans (by simp; rfl)); have a1 : w1.cell? ⟨w.heap.size, 1, none⟩ = some _ := ((c1 _ 1 (by first | omega | (simp; done) | (simp; omega))).trans (by simp; rfl)); have b0 : w1.cell? ⟨w.heap.size + 1, 0, none⟩ = some _ := ((c1 _ 0 (by first | omega | (simp; done) | (simp; omega))).trans (by simp; rfl)); have b1 : w1.cell? ⟨w.heap.size + 1, 1, none⟩ = some _ := ((c1 _ 1 (by first | omega | (simp; done) | (simp; omega))).trans (by simp; rfl)); clear c1 f1 hb1)
    | (go_at_call 53; with_reducible refine (CK'.out _ (keeps_of_below hB1.out)).mono ?_; rintro e w2 ⟨rfl, hb2⟩; have hB2 := Lib.hid (keeps_below hB1.out hb2); obtain ⟨c2, f2⟩ := bcell hb2; have hs2 : w.heap.size + 1 < w2.heap.size := (by have := hb2.size; omega); have hs20 : w.heap.size < w2.heap.size := (by omega); have a20 := (c2 w.heap.size 0 (by omega)).trans a0; have a21 := (c2 w.heap.size 1 (by omega)).trans a1; have b20 := (c2 (w.heap.size + 1) 0 (by omega)).trans b0; have b21 := (c2 (w.heap.size + 1) 1 (by omega)).trans b1; clear c2 f2 hb2 a0 a1 b0 b1; have hq2 := Hq.out _ (keeps_of_below hB2.out); unfold AnyEnd at hq2; rw [hgb] at hq2; simp only [Bool.false_eq_true, false_and, or_false, true_and] at hq2))
  rw [HQ.out, hgb]
  exact ⟨.inl ⟨rfl, rfl⟩, hB2.out⟩

set_option maxRecDepth 100000 in
set_option maxHeartbeats 400000 in
theorem equal_any_bad {P P' : Nat → Prop} (hd : ∀ b, P b → ¬ P' b) (g g' : GAny) (hgb : gBad g g' = true) (y y' : Value) (w : World) (h : RSV P w (.any g) (.int .u64 0) y) (h' : RSV P' w (.any g') (.int .u64 0) y') :
    Calls Tryd.prog 26 #[.agg #[.int .u64 0, y], .agg #[.int .u64 0, y']] w (EqEnd (gEq g g', gBad g g') w) := by
  have hq : ∀ wx, Keeps w wx → AnyEnd g g' y y' wx := fun wx hx => any_eq hd (by have := h.keep hx; unfold RSV at this; exact this.2) (by have := h'.keep hx; unfold RSV at this; exact this.2)
  have Hq := Lib.hid hq
  have hG := fun x x' wx => guard_any x x' (shape_or (P := P) (w := w) (g := g) (by unfold RSV at h; exact h.2)) (shape_or (P := P') (w := w) (g := g') (by unfold RSV at h'; exact h'.2)) wx
  clear hq
  have cK := fun wx (hx : Keeps w wx) => kind_any (.any g) wx _ _ (h.keep hx)
  have cK' := fun wx (hx : Keeps w wx) => kind_any (.any g') wx _ _ (h'.keep hx)
  simp only [SVal.kind] at cK cK'
  obtain ⟨Q, hQ⟩ : ∃ Q, Q = EqEnd (gEq g g', gBad g g') w := ⟨_, rfl⟩
  rw [← hQ]
  have HQ := Lib.hid hQ
  have CK := Lib.hid cK
  have CK' := Lib.hid cK'
  clear cK cK' h h' hQ
  go_enter Tryd.func26, Tryd.ntmps26
  go_wp2_with (first
    | (go_at_call 53; with_reducible refine (CK.out _ (keeps_of_below (by repeat' (first | with_reducible assumption | with_reducible exact Below.refl _ _ | with_reducible refine Below.setCell ?_ ?_ _ | with_reducible refine Below.alloc ?_ ?_ _ | with_reducible refine Below.drew ?_ | with_reducible refine below_drewN ?_ _ | omega | (simp; done) | (simp; omega))))).mono ?_; rintro e w1 ⟨rfl, hb1⟩; have hB1 := Lib.hid (keeps_below (show Below w.heap.size w _ from (by repeat' (first | with_reducible assumption | with_reducible exact Below.refl _ _ | with_reducible refine Below.setCell ?_ ?_ _ | with_reducible refine Below.alloc ?_ ?_ _ | with_reducible refine Below.drew ?_ | with_reducible refine below_drewN ?_ _ | omega | (simp; done) | (simp; omega)))) hb1); obtain ⟨c1, f1⟩ := bcell hb1; have hs1 : w.heap.size + 1 < w1.heap.size := (by have := hb1.size; simp at this; omega); have a0 : w1.cell? ⟨w.heap.size, 0, none⟩ = some _ := ((c1 _ 0 (by first | omega | (simp; done) | (simp; omega))).trans (by simp; rfl)); have a1 : w1.cell? ⟨w.heap.size, 1, none⟩ = some _ := ((c1 _ 1 (by first | omega | (simp; done) | (simp; omega))).trans (by simp; rfl)); have b0 : w1.cell? ⟨w.heap.size + 1, 0, none⟩ = some _ := ((c1 _ 0 (by first | omega | (simp; done) | (simp; omega))).trans (by simp; rfl)); have b1 : w1.cell? ⟨w.heap.size + 1, 1, none⟩ = some _ := ((c1 _ 1 (by first | omega | (simp; done) | (simp; omega))).trans (by simp; rfl)); clear c1 f1 hb1)
    | (go_at_call 53; with_reducible refine (CK'.out _ (keeps_of_below hB1.out)).mono ?_; rintro e w2 ⟨rfl, hb2⟩; have hB2 := Lib.hid (keeps_below hB1.out hb2); obtain ⟨c2, f2⟩ := bcell hb2; have hs2 : w.heap.size + 1 < w2.heap.size := (by have := hb2.size; omega); have hs20 : w.heap.size < w2.heap.size := (by omega); have a20 := (c2 w.heap.size 0 (by omega)).trans a0; have a21 := (c2 w.heap.size 1 (by omega)).trans a1; have b20 := (c2 (w.heap.size + 1) 0 (by omega)).trans b0; have b21 := (c2 (w.heap.size + 1) 1 (by omega)).trans b1; clear c2 f2 hb2 a0 a1 b0 b1; have hq2 := Hq.out _ (keeps_of_below hB2.out); unfold AnyEnd at hq2; rw [hgb] at hq2; simp only [Bool.true_eq_false, false_and, false_or, true_and] at hq2; obtain ⟨tx, xx, hq2⟩ := hq2))
  rw [HQ.out, hgb]
  exact ⟨rfl, .inr ⟨rfl, _, _, rfl⟩, hB2.out⟩

set_option maxRecDepth 100000 in
set_option maxHeartbeats 400000 in
theorem equal_throws {P P' : Nat → Prop} (s s' : ByteArray) (w : World) (h : RSV P w (.throws s none) (.int .u64 0) (.iface 86 (.agg #[.string s, .pointer none]))) (h' : RSV P' w (.throws s' none) (.int .u64 0) (.iface 86 (.agg #[.string s', .pointer none]))) :
    Calls Tryd.prog 26 #[.agg #[.int .u64 0, (.iface 86 (.agg #[.string s, .pointer none]))], .agg #[.int .u64 0, (.iface 86 (.agg #[.string s', .pointer none]))]] w (EqEnd (decide (s = s'), false) w) := by
  have hG := fun x x' wx => guard_any x x' (y := (.iface 86 (.agg #[.string s, .pointer none]))) (y' := (.iface 86 (.agg #[.string s', .pointer none]))) (.inr ⟨_, _, rfl⟩) (.inr ⟨_, _, rfl⟩) wx
  have hq := Facts.eqThrows s s'
  have cK := fun wx (hx : Keeps w wx) => kind_any (.throws s none) wx _ _ (h.keep hx)
  have cK' := fun wx (hx : Keeps w wx) => kind_any (.throws s' none) wx _ _ (h'.keep hx)
  simp only [SVal.kind] at cK cK'
  obtain ⟨Q, hQ⟩ : ∃ Q, Q = EqEnd (decide (s = s'), false) w := ⟨_, rfl⟩
  rw [← hQ]
  have HQ := Lib.hid hQ
  have CK := Lib.hid cK
  have CK' := Lib.hid cK'
  clear cK cK' h h' hQ
  go_enter Tryd.func26, Tryd.ntmps26
  go_wp2_with (first
    | (go_at_call 53; with_reducible refine (CK.out _ (keeps_of_below (by repeat' (first | with_reducible assumption | with_reducible exact Below.refl _ _ | with_reducible refine Below.setCell ?_ ?_ _ | with_reducible refine Below.alloc ?_ ?_ _ | with_reducible refine Below.drew ?_ | with_reducible refine below_drewN ?_ _ | omega | (simp; done) | (simp; omega))))).mono ?_; rintro e w1 ⟨rfl, hb1⟩; have hB1 := Lib.hid (keeps_below (show Below w.heap.size w _ from (by repeat' (first | with_reducible assumption | with_reducible exact Below.refl _ _ | with_reducible refine Below.setCell ?_ ?_ _ | with_reducible refine Below.alloc ?_ ?_ _ | with_reducible refine Below.drew ?_ | with_reducible refine below_drewN ?_ _ | omega | (simp; done) | (simp; omega)))) hb1); obtain ⟨c1, f1⟩ := bcell hb1; have hs1 : w.heap.size + 1 < w1.heap.size := (by have := hb1.size; simp at this; omega); have a0 : w1.cell? ⟨w.heap.size, 0, none⟩ = some _ := ((c1 _ 0 (by first | omega | (simp; done) | (simp; omega))).trans (by simp; rfl)); have a1 : w1.cell? ⟨w.heap.size, 1, none⟩ = some _ := ((c1 _ 1 (by first | omega | (simp; done) | (simp; omega))).trans (by simp; rfl)); have b0 : w1.cell? ⟨w.heap.size + 1, 0, none⟩ = some _ := ((c1 _ 0 (by first | omega | (simp; done) | (simp; omega))).trans (by simp; rfl)); have b1 : w1.cell? ⟨w.heap.size + 1, 1, none⟩ = some _ := ((c1 _ 1 (by first | omega | (simp; done) | (simp; omega))).trans (by simp; rfl)); clear c1 f1 hb1)
    | (go_at_call 53; with_reducible refine (CK'.out _ (keeps_of_below hB1.out)).mono ?_; rintro e w2 ⟨rfl, hb2⟩; have hB2 := Lib.hid (keeps_below hB1.out hb2); obtain ⟨c2, f2⟩ := bcell hb2; have hs2 : w.heap.size + 1 < w2.heap.size := (by have := hb2.size; omega); have hs20 : w.heap.size < w2.heap.size := (by omega); have a20 := (c2 w.heap.size 0 (by omega)).trans a0; have a21 := (c2 w.heap.size 1 (by omega)).trans a1; have b20 := (c2 (w.heap.size + 1) 0 (by omega)).trans b0; have b21 := (c2 (w.heap.size + 1) 1 (by omega)).trans b1; clear c2 f2 hb2 a0 a1 b0 b1))
  rw [HQ.out]
  exact ⟨.inl ⟨rfl, rfl⟩, hB2.out⟩

set_option maxRecDepth 100000 in
set_option maxHeartbeats 400000 in
theorem equal_valuer {P P' : Nat → Prop} (n n' : Int) (v v' : SVal) (c c' : Option Addr) (vx vy vx' vy' : Value) (w : World) (h : RSV P w (.valuer n v c) (.int .u64 0) (.iface 88 (.agg #[.int .u64 n, vx, vy, .pointer c]))) (h' : RSV P' w (.valuer n' v' c') (.int .u64 0) (.iface 88 (.agg #[.int .u64 n', vx', vy', .pointer c']))) :
    Calls Tryd.prog 26 #[.agg #[.int .u64 0, (.iface 88 (.agg #[.int .u64 n, vx, vy, .pointer c]))], .agg #[.int .u64 0, (.iface 88 (.agg #[.int .u64 n', vx', vy', .pointer c']))]] w (EqEnd (false, true) w) := by
  have hG := fun x x' wx => guard_any x x' (y := (.iface 88 (.agg #[.int .u64 n, vx, vy, .pointer c]))) (y' := (.iface 88 (.agg #[.int .u64 n', vx', vy', .pointer c']))) (.inr ⟨_, _, rfl⟩) (.inr ⟨_, _, rfl⟩) wx
  have hq := Facts.eqValuer (.agg #[.int .u64 n, vx, vy, .pointer c]) (.agg #[.int .u64 n', vx', vy', .pointer c'])
  have cK := fun wx (hx : Keeps w wx) => kind_any (.valuer n v c) wx _ _ (h.keep hx)
  have cK' := fun wx (hx : Keeps w wx) => kind_any (.valuer n' v' c') wx _ _ (h'.keep hx)
  simp only [SVal.kind] at cK cK'
  obtain ⟨Q, hQ⟩ : ∃ Q, Q = EqEnd (false, true) w := ⟨_, rfl⟩
  rw [← hQ]
  have HQ := Lib.hid hQ
  have CK := Lib.hid cK
  have CK' := Lib.hid cK'
  clear cK cK' h h' hQ
  go_enter Tryd.func26, Tryd.ntmps26
  go_wp2_with (first
    | (go_at_call 53; with_reducible refine (CK.out _ (keeps_of_below (by repeat' (first | with_reducible assumption | with_reducible exact Below.refl _ _ | with_reducible refine Below.setCell ?_ ?_ _ | with_reducible refine Below.alloc ?_ ?_ _ | with_reducible refine Below.drew ?_ | with_reducible refine below_drewN ?_ _ | omega | (simp; done) | (simp; omega))))).mono ?_; rintro e w1 ⟨rfl, hb1⟩; have hB1 := Lib.hid (keeps_below (show Below w.heap.size w _ from (by repeat' (first | with_reducible assumption | with_reducible exact Below.refl _ _ | with_reducible refine Below.setCell ?_ ?_ _ | with_reducible refine Below.alloc ?_ ?_ _ | with_reducible refine Below.drew ?_ | with_reducible refine below_drewN ?_ _ | omega | (simp; done) | (simp; omega)))) hb1); obtain ⟨c1, f1⟩ := bcell hb1; have hs1 : w.heap.size + 1 < w1.heap.size := (by have := hb1.size; simp at this; omega); have a0 : w1.cell? ⟨w.heap.size, 0, none⟩ = some _ := ((c1 _ 0 (by first | omega | (simp; done) | (simp; omega))).trans (by simp; rfl)); have a1 : w1.cell? ⟨w.heap.size, 1, none⟩ = some _ := ((c1 _ 1 (by first | omega | (simp; done) | (simp; omega))).trans (by simp; rfl)); have b0 : w1.cell? ⟨w.heap.size + 1, 0, none⟩ = some _ := ((c1 _ 0 (by first | omega | (simp; done) | (simp; omega))).trans (by simp; rfl)); have b1 : w1.cell? ⟨w.heap.size + 1, 1, none⟩ = some _ := ((c1 _ 1 (by first | omega | (simp; done) | (simp; omega))).trans (by simp; rfl)); clear c1 f1 hb1)
    | (go_at_call 53; with_reducible refine (CK'.out _ (keeps_of_below hB1.out)).mono ?_; rintro e w2 ⟨rfl, hb2⟩; have hB2 := Lib.hid (keeps_below hB1.out hb2); obtain ⟨c2, f2⟩ := bcell hb2; have hs2 : w.heap.size + 1 < w2.heap.size := (by have := hb2.size; omega); have hs20 : w.heap.size < w2.heap.size := (by omega); have a20 := (c2 w.heap.size 0 (by omega)).trans a0; have a21 := (c2 w.heap.size 1 (by omega)).trans a1; have b20 := (c2 (w.heap.size + 1) 0 (by omega)).trans b0; have b21 := (c2 (w.heap.size + 1) 1 (by omega)).trans b1; clear c2 f2 hb2 a0 a1 b0 b1; obtain ⟨tx, xx, hq2⟩ := hq w2))
  rw [HQ.out]
  exact ⟨rfl, .inr ⟨rfl, _, _, rfl⟩, hB2.out⟩

set_option maxRecDepth 100000 in
set_option maxHeartbeats 400000 in
theorem equal_vt {P P' : Nat → Prop} (n : Int) (v : SVal) (c : Option Addr) (vx vy : Value) (s' : ByteArray) (c' : Option Addr) (w : World) (h : RSV P w (.valuer n v c) (.int .u64 0) (.iface 88 (.agg #[.int .u64 n, vx, vy, .pointer c]))) (h' : RSV P' w (.throws s' c') (.int .u64 0) (.iface 86 (.agg #[.string s', .pointer c']))) :
    Calls Tryd.prog 26 #[.agg #[.int .u64 0, (.iface 88 (.agg #[.int .u64 n, vx, vy, .pointer c]))], .agg #[.int .u64 0, (.iface 86 (.agg #[.string s', .pointer c']))]] w (EqEnd (false, false) w) := by
  have hG := fun x x' wx => guard_any x x' (y := (.iface 88 (.agg #[.int .u64 n, vx, vy, .pointer c]))) (y' := (.iface 86 (.agg #[.string s', .pointer c']))) (.inr ⟨_, _, rfl⟩) (.inr ⟨_, _, rfl⟩) wx
  have hq := fun wx => Facts.eqNe 88 86 (.agg #[.int .u64 n, vx, vy, .pointer c]) (.agg #[.string s', .pointer c']) wx (by decide)
  have cK := fun wx (hx : Keeps w wx) => kind_any (.valuer n v c) wx _ _ (h.keep hx)
  have cK' := fun wx (hx : Keeps w wx) => kind_any (.throws s' c') wx _ _ (h'.keep hx)
  simp only [SVal.kind] at cK cK'
  obtain ⟨Q, hQ⟩ : ∃ Q, Q = EqEnd (false, false) w := ⟨_, rfl⟩
  rw [← hQ]
  have HQ := Lib.hid hQ
  have CK := Lib.hid cK
  have CK' := Lib.hid cK'
  clear cK cK' h h' hQ
  go_enter Tryd.func26, Tryd.ntmps26
  go_wp2_with (first
    | (go_at_call 53; with_reducible refine (CK.out _ (keeps_of_below (by repeat' (first | with_reducible assumption | with_reducible exact Below.refl _ _ | with_reducible refine Below.setCell ?_ ?_ _ | with_reducible refine Below.alloc ?_ ?_ _ | with_reducible refine Below.drew ?_ | with_reducible refine below_drewN ?_ _ | omega | (simp; done) | (simp; omega))))).mono ?_; rintro e w1 ⟨rfl, hb1⟩; have hB1 := Lib.hid (keeps_below (show Below w.heap.size w _ from (by repeat' (first | with_reducible assumption | with_reducible exact Below.refl _ _ | with_reducible refine Below.setCell ?_ ?_ _ | with_reducible refine Below.alloc ?_ ?_ _ | with_reducible refine Below.drew ?_ | with_reducible refine below_drewN ?_ _ | omega | (simp; done) | (simp; omega)))) hb1); obtain ⟨c1, f1⟩ := bcell hb1; have hs1 : w.heap.size + 1 < w1.heap.size := (by have := hb1.size; simp at this; omega); have a0 : w1.cell? ⟨w.heap.size, 0, none⟩ = some _ := ((c1 _ 0 (by first | omega | (simp; done) | (simp; omega))).trans (by simp; rfl)); have a1 : w1.cell? ⟨w.heap.size, 1, none⟩ = some _ := ((c1 _ 1 (by first | omega | (simp; done) | (simp; omega))).trans (by simp; rfl)); have b0 : w1.cell? ⟨w.heap.size + 1, 0, none⟩ = some _ := ((c1 _ 0 (by first | omega | (simp; done) | (simp; omega))).trans (by simp; rfl)); have b1 : w1.cell? ⟨w.heap.size + 1, 1, none⟩ = some _ := ((c1 _ 1 (by first | omega | (simp; done) | (simp; omega))).trans (by simp; rfl)); clear c1 f1 hb1)
    | (go_at_call 53; with_reducible refine (CK'.out _ (keeps_of_below hB1.out)).mono ?_; rintro e w2 ⟨rfl, hb2⟩; have hB2 := Lib.hid (keeps_below hB1.out hb2); obtain ⟨c2, f2⟩ := bcell hb2; have hs2 : w.heap.size + 1 < w2.heap.size := (by have := hb2.size; omega); have hs20 : w.heap.size < w2.heap.size := (by omega); have a20 := (c2 w.heap.size 0 (by omega)).trans a0; have a21 := (c2 w.heap.size 1 (by omega)).trans a1; have b20 := (c2 (w.heap.size + 1) 0 (by omega)).trans b0; have b21 := (c2 (w.heap.size + 1) 1 (by omega)).trans b1; clear c2 f2 hb2 a0 a1 b0 b1))
  rw [HQ.out]
  exact ⟨.inl ⟨rfl, rfl⟩, hB2.out⟩

set_option maxRecDepth 100000 in
set_option maxHeartbeats 400000 in
theorem equal_tv {P P' : Nat → Prop} (s : ByteArray) (c : Option Addr) (n' : Int) (v' : SVal) (c' : Option Addr) (vx' vy' : Value) (w : World) (h : RSV P w (.throws s c) (.int .u64 0) (.iface 86 (.agg #[.string s, .pointer c]))) (h' : RSV P' w (.valuer n' v' c') (.int .u64 0) (.iface 88 (.agg #[.int .u64 n', vx', vy', .pointer c']))) :
    Calls Tryd.prog 26 #[.agg #[.int .u64 0, (.iface 86 (.agg #[.string s, .pointer c]))], .agg #[.int .u64 0, (.iface 88 (.agg #[.int .u64 n', vx', vy', .pointer c']))]] w (EqEnd (false, false) w) := by
  have hG := fun x x' wx => guard_any x x' (y := (.iface 86 (.agg #[.string s, .pointer c]))) (y' := (.iface 88 (.agg #[.int .u64 n', vx', vy', .pointer c']))) (.inr ⟨_, _, rfl⟩) (.inr ⟨_, _, rfl⟩) wx
  have hq := fun wx => Facts.eqNe 86 88 (.agg #[.string s, .pointer c]) (.agg #[.int .u64 n', vx', vy', .pointer c']) wx (by decide)
  have cK := fun wx (hx : Keeps w wx) => kind_any (.throws s c) wx _ _ (h.keep hx)
  have cK' := fun wx (hx : Keeps w wx) => kind_any (.valuer n' v' c') wx _ _ (h'.keep hx)
  simp only [SVal.kind] at cK cK'
  obtain ⟨Q, hQ⟩ : ∃ Q, Q = EqEnd (false, false) w := ⟨_, rfl⟩
  rw [← hQ]
  have HQ := Lib.hid hQ
  have CK := Lib.hid cK
  have CK' := Lib.hid cK'
  clear cK cK' h h' hQ
  go_enter Tryd.func26, Tryd.ntmps26
  go_wp2_with (first
    | (go_at_call 53; with_reducible refine (CK.out _ (keeps_of_below (by repeat' (first | with_reducible assumption | with_reducible exact Below.refl _ _ | with_reducible refine Below.setCell ?_ ?_ _ | with_reducible refine Below.alloc ?_ ?_ _ | with_reducible refine Below.drew ?_ | with_reducible refine below_drewN ?_ _ | omega | (simp; done) | (simp; omega))))).mono ?_; rintro e w1 ⟨rfl, hb1⟩; have hB1 := Lib.hid (keeps_below (show Below w.heap.size w _ from (by repeat' (first | with_reducible assumption | with_reducible exact Below.refl _ _ | with_reducible refine Below.setCell ?_ ?_ _ | with_reducible refine Below.alloc ?_ ?_ _ | with_reducible refine Below.drew ?_ | with_reducible refine below_drewN ?_ _ | omega | (simp; done) | (simp; omega)))) hb1); obtain ⟨c1, f1⟩ := bcell hb1; have hs1 : w.heap.size + 1 < w1.heap.size := (by have := hb1.size; simp at this; omega); have a0 : w1.cell? ⟨w.heap.size, 0, none⟩ = some _ := ((c1 _ 0 (by first | omega | (simp; done) | (simp; omega))).trans (by simp; rfl)); have a1 : w1.cell? ⟨w.heap.size, 1, none⟩ = some _ := ((c1 _ 1 (by first | omega | (simp; done) | (simp; omega))).trans (by simp; rfl)); have b0 : w1.cell? ⟨w.heap.size + 1, 0, none⟩ = some _ := ((c1 _ 0 (by first | omega | (simp; done) | (simp; omega))).trans (by simp; rfl)); have b1 : w1.cell? ⟨w.heap.size + 1, 1, none⟩ = some _ := ((c1 _ 1 (by first | omega | (simp; done) | (simp; omega))).trans (by simp; rfl)); clear c1 f1 hb1)
    | (go_at_call 53; with_reducible refine (CK'.out _ (keeps_of_below hB1.out)).mono ?_; rintro e w2 ⟨rfl, hb2⟩; have hB2 := Lib.hid (keeps_below hB1.out hb2); obtain ⟨c2, f2⟩ := bcell hb2; have hs2 : w.heap.size + 1 < w2.heap.size := (by have := hb2.size; omega); have hs20 : w.heap.size < w2.heap.size := (by omega); have a20 := (c2 w.heap.size 0 (by omega)).trans a0; have a21 := (c2 w.heap.size 1 (by omega)).trans a1; have b20 := (c2 (w.heap.size + 1) 0 (by omega)).trans b0; have b21 := (c2 (w.heap.size + 1) 1 (by omega)).trans b1; clear c2 f2 hb2 a0 a1 b0 b1))
  rw [HQ.out]
  exact ⟨.inl ⟨rfl, rfl⟩, hB2.out⟩

set_option maxRecDepth 100000 in
set_option maxHeartbeats 400000 in
theorem time_any (i a b c : Int) (z : ByteArray) (w : World) : Calls Tryd.prog 56 #[.agg #[.int .u64 i, .iface 100 (.agg #[.int .i64 a, .int .i64 b, .int .i64 c, .string z])]] w fun e w' => e = .returned (.agg #[.int .i64 a, .int .i64 b, .int .i64 c, .string z]) ∧ Below w.heap.size w w' := by
  go_enter Tryd.func56, Tryd.ntmps56
  go_wp2
  refine bodyPost_ret (v := .agg #[.int .i64 a, .int .i64 b, .int .i64 c, .string z]) (by simp [results, Tryd.results56, go_sem]) rfl ⟨rfl, (by repeat' (first | with_reducible assumption | with_reducible exact Below.refl _ _ | with_reducible refine Below.setCell ?_ ?_ _ | with_reducible refine Below.alloc ?_ ?_ _ | with_reducible refine Below.drew ?_ | with_reducible refine below_drewN ?_ _ | omega | (simp; done) | (simp; omega)))⟩

set_option maxRecDepth 100000 in
set_option maxHeartbeats 400000 in
theorem sameTime_any (a b c a' b' c' : Int) (z z' : ByteArray) (w : World) : Calls Tryd.prog 57 #[.agg #[.int .i64 a, .int .i64 b, .int .i64 c, .string z], .agg #[.int .i64 a', .int .i64 b', .int .i64 c', .string z']] w fun e w' => e = .returned (.bool (decide (a = a') && decide (b = b'))) ∧ Below w.heap.size w w' := by
  go_enter Tryd.func57, Tryd.ntmps57
  go_wp2
  all_goals
    go_ret
    refine ⟨?_, (by repeat' (first | with_reducible assumption | with_reducible exact Below.refl _ _ | with_reducible refine Below.setCell ?_ ?_ _ | with_reducible refine Below.alloc ?_ ?_ _ | with_reducible refine Below.drew ?_ | with_reducible refine below_drewN ?_ _ | omega | (simp; done) | (simp; omega)))⟩
    try go_tidy
    all_goals simp_all [int_beq]

set_option maxRecDepth 100000 in
set_option maxHeartbeats 400000 in
theorem equal_time {P P' : Nat → Prop} (t t' : GTime) (w : World) (h : RSV P w (.time t) (.int .u64 0) (.iface 100 (.agg #[.int .i64 t.sec, .int .i64 t.nsec, .int .i64 t.off, .string (zone t)]))) (h' : RSV P' w (.time t') (.int .u64 0) (.iface 100 (.agg #[.int .i64 t'.sec, .int .i64 t'.nsec, .int .i64 t'.off, .string (zone t')]))) :
    Calls Tryd.prog 26 #[.agg #[.int .u64 0, (.iface 100 (.agg #[.int .i64 t.sec, .int .i64 t.nsec, .int .i64 t.off, .string (zone t)]))], .agg #[.int .u64 0, (.iface 100 (.agg #[.int .i64 t'.sec, .int .i64 t'.nsec, .int .i64 t'.off, .string (zone t')]))]] w (EqEnd (decide (t.sec = t'.sec) && decide (t.nsec = t'.nsec), false) w) := by
  have cK := fun wx (hx : Keeps w wx) => kind_any (.time t) wx _ _ (h.keep hx)
  have cK' := fun wx (hx : Keeps w wx) => kind_any (.time t') wx _ _ (h'.keep hx)
  simp only [SVal.kind] at cK cK'
  obtain ⟨Q, hQ⟩ : ∃ Q, Q = EqEnd (decide (t.sec = t'.sec) && decide (t.nsec = t'.nsec), false) w := ⟨_, rfl⟩
  rw [← hQ]
  have HQ := Lib.hid hQ
  have CK := Lib.hid cK
  have CK' := Lib.hid cK'
  clear cK cK' h h' hQ
  generalize hz : zone t = z at *
  generalize hz' : zone t' = z' at *
  clear hz hz'
  go_enter Tryd.func26, Tryd.ntmps26
  go_wp2_with (first
    | (go_at_call 53; with_reducible refine (CK.out _ (keeps_of_below (by repeat' (first | with_reducible assumption | with_reducible exact Below.refl _ _ | with_reducible refine Below.setCell ?_ ?_ _ | with_reducible refine Below.alloc ?_ ?_ _ | with_reducible refine Below.drew ?_ | with_reducible refine below_drewN ?_ _ | omega | (simp; done) | (simp; omega))))).mono ?_; rintro e w1 ⟨rfl, hb1⟩; have hB1 := Lib.hid (keeps_below (show Below w.heap.size w _ from (by repeat' (first | with_reducible assumption | with_reducible exact Below.refl _ _ | with_reducible refine Below.setCell ?_ ?_ _ | with_reducible refine Below.alloc ?_ ?_ _ | with_reducible refine Below.drew ?_ | with_reducible refine below_drewN ?_ _ | omega | (simp; done) | (simp; omega)))) hb1); obtain ⟨c1, f1⟩ := bcell hb1; have hs1 : w.heap.size + 1 < w1.heap.size := (by have := hb1.size; simp at this; omega); have a0 : w1.cell? ⟨w.heap.size, 0, none⟩ = some _ := ((c1 _ 0 (by first | omega | (simp; done) | (simp; omega))).trans (by simp; rfl)); have a1 : w1.cell? ⟨w.heap.size, 1, none⟩ = some _ := ((c1 _ 1 (by first | omega | (simp; done) | (simp; omega))).trans (by simp; rfl)); have b0 : w1.cell? ⟨w.heap.size + 1, 0, none⟩ = some _ := ((c1 _ 0 (by first | omega | (simp; done) | (simp; omega))).trans (by simp; rfl)); have b1 : w1.cell? ⟨w.heap.size + 1, 1, none⟩ = some _ := ((c1 _ 1 (by first | omega | (simp; done) | (simp; omega))).trans (by simp; rfl)); clear c1 f1 hb1)
    | (go_at_call 53; with_reducible refine (CK'.out _ (keeps_of_below hB1.out)).mono ?_; rintro e w2 ⟨rfl, hb2⟩; have hB2 := Lib.hid (keeps_below hB1.out hb2); obtain ⟨c2, f2⟩ := bcell hb2; have hs2 : w.heap.size + 1 < w2.heap.size := (by have := hb2.size; omega); have hs20 : w.heap.size < w2.heap.size := (by omega); have a20 := (c2 w.heap.size 0 (by omega)).trans a0; have a21 := (c2 w.heap.size 1 (by omega)).trans a1; have b20 := (c2 (w.heap.size + 1) 0 (by omega)).trans b0; have b21 := (c2 (w.heap.size + 1) 1 (by omega)).trans b1; clear c2 f2 hb2 a0 a1 b0 b1))
  go_region_held3 (fun w' => w'.cell? ⟨w.heap.size, 0, none⟩ = some (.int .u64 0) ∧ w'.cell? ⟨w.heap.size, 1, none⟩ = some ((.iface 100 (.agg #[.int .i64 t.sec, .int .i64 t.nsec, .int .i64 t.off, .string z]))) ∧ w'.cell? ⟨w.heap.size + 1, 0, none⟩ = some (.int .u64 0) ∧ w'.cell? ⟨w.heap.size + 1, 1, none⟩ = some ((.iface 100 (.agg #[.int .i64 t'.sec, .int .i64 t'.nsec, .int .i64 t'.off, .string z'])))) (first | exact ⟨(hc5 _ 0 hs40).trans ((hc4 _ 0 hs30).trans ((hc3 _ 0 hs20).trans a20)), (hc5 _ 1 hs40).trans ((hc4 _ 1 hs30).trans ((hc3 _ 1 hs20).trans a21)), (hc5 _ 0 hs41).trans ((hc4 _ 0 hs31).trans ((hc3 _ 0 hs2).trans b20)), (hc5 _ 1 hs41).trans ((hc4 _ 1 hs31).trans ((hc3 _ 1 hs2).trans b21))⟩ | exact ⟨(hc4 _ 0 hs30).trans ((hc3 _ 0 hs20).trans a20), (hc4 _ 1 hs30).trans ((hc3 _ 1 hs20).trans a21), (hc4 _ 0 hs31).trans ((hc3 _ 0 hs2).trans b20), (hc4 _ 1 hs31).trans ((hc3 _ 1 hs2).trans b21)⟩ | exact ⟨(hc3 _ 0 hs20).trans a20, (hc3 _ 1 hs20).trans a21, (hc3 _ 0 hs2).trans b20, (hc3 _ 1 hs2).trans b21⟩ | go_keep) (first
    | (go_at_call 56; first | ((with_reducible refine (time_any 0 t.sec t.nsec t.off z _).mono ?_); rintro e w3 ⟨rfl, hb3⟩; obtain ⟨hc3, hf3⟩ := bcell hb3; have hs30 : w.heap.size < w3.heap.size := Nat.lt_of_lt_of_le hs20 hb3.size; have hs31 : w.heap.size + 1 < w3.heap.size := Nat.lt_of_lt_of_le hs2 hb3.size) | ((with_reducible refine (time_any 0 t'.sec t'.nsec t'.off z' _).mono ?_); rintro e w4 ⟨rfl, hb4⟩; obtain ⟨hc4, hf4⟩ := bcell hb4; have hs40 : w.heap.size < w4.heap.size := Nat.lt_of_lt_of_le hs30 hb4.size; have hs41 : w.heap.size + 1 < w4.heap.size := Nat.lt_of_lt_of_le hs31 hb4.size))
    | (go_at_call 57; (refine (sameTime_any _ _ _ _ _ _ _ _ _).mono ?_); rintro e w5 ⟨rfl, hb5⟩; obtain ⟨hc5, hf5⟩ := bcell hb5))
  go_wp2
  rw [HQ.out]
  exact ⟨.inl ⟨rfl, rfl⟩, keeps_below (keeps_below (keeps_below hB2.out.drew hb3) hb4) hb5⟩

end Go.Proofs.YtcgdnjigocknbaaDoor.Va

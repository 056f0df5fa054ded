/- Groups of package slog (isEmptyGroup, countEmptyGroups, GroupValue): the walks. -/
import Derived.Test.YtdeomgfapffidaaGreatDoorKind
import Derived.Test.YtdeomgfapffidaaGreatDoorTidy
import Derived.Maps.AppendAt
namespace Go.Proofs.YtdeomgfapffidaaGreatDoor.Va
set_option linter.unusedVariables false
set_option linter.unusedSimpArgs false
open Go Go.RowKit

set_option maxRecDepth 100000 in
set_option maxHeartbeats 400000 in
/-- (slog.Value).group. -/
theorem group_any (x : Value) (A : Option Addr) (len cap : Nat) (w : World) (i : Int) (hx : x = .int .u64 i) :
    Calls Tryz.prog 96 #[.agg #[x, .iface 199 (.slice A len cap)]] w fun e w' => e = .returned (.slice A len cap) ∧ Below w.heap.size w w' := by
  subst hx
  go_enter Tryz.func96, Tryz.ntmps96
  go_wp2
  go_ret
  exact ⟨rfl, (by repeat' (first | with_reducible assumption | with_reducible exact Below.refl _ _ | with_reducible refine Below.setCell ?_ ?_ _ | with_reducible refine Below.alloc ?_ ?_ _ | with_reducible refine Below.drew ?_ | with_reducible refine below_drewN ?_ _ | omega | (simp; done) | (simp; omega)))⟩

theorem rsv_num {P : Nat → Prop} {w : World} {d : SVal} {x y : Value} (h : RSV P w d x y) : ∃ i, x = .int .u64 i := by
  cases d <;> unfold RSV at h
  case group => obtain ⟨A, len, cap, rfl, _⟩ := h; exact ⟨_, rfl⟩
  case valuer => obtain ⟨vx, vy, rfl, _⟩ := h; exact ⟨_, rfl⟩
  all_goals exact ⟨_, h.1⟩

theorem rsv_any {P : Nat → Prop} {w : World} {d : SVal} {x y : Value} (h : RSV P w d x y) : y = .nilIface ∨ ∃ t u, y = .iface t u := by
  cases d <;> unfold RSV at h
  case num => obtain ⟨_, rfl, _⟩ := h; exact .inr ⟨_, _, rfl⟩
  case group => obtain ⟨A, len, cap, _, rfl, _⟩ := h; exact .inr ⟨_, _, rfl⟩
  case valuer => obtain ⟨vx, vy, _, rfl, _⟩ := h; exact .inr ⟨_, _, rfl⟩
  case any g =>
    obtain ⟨_, h⟩ := h
    cases g <;> simp only [RAny] at h
    case nil => exact .inl h
    case bytes => obtain ⟨A, len, cap, rfl, _⟩ := h; exact .inr ⟨_, _, rfl⟩
    case source => obtain ⟨b, rfl, _⟩ := h; exact .inr ⟨_, _, rfl⟩
    all_goals exact .inr ⟨_, _, h⟩
  all_goals exact .inr ⟨_, _, h.2⟩

set_option maxRecDepth 100000 in
set_option maxHeartbeats 400000 in
/-- (slog.Value).isEmptyGroup. -/
theorem emptyGroup_any {P : Nat → Prop} (d : SVal) (w : World) (x y : Value) (h : RSV P w d x y) :
    Calls Tryz.prog 106 #[.agg #[x, y]] w fun e w' => e = .returned (.bool d.isEmptyGroup) ∧ Below w.heap.size w w' := by
  obtain ⟨i, hi⟩ := rsv_num h
  have H := Lib.hid h
  by_cases hk : d.kind = 8
  · have hg : ∃ l, d = .group l := by
      cases d with
      | group l => exact ⟨l, rfl⟩
      | num k n => unfold RSV at h; simp only [SVal.kind] at hk; omega
      | _ => simp [SVal.kind] at hk
    obtain ⟨l, rfl⟩ := hg
    unfold RSV at h
    obtain ⟨A, len, cap, rfl, rfl, hlen, hr⟩ := h
    have hl : len = l.len := hlen
    clear hr hi hk hlen
    have Hl := Lib.hid hl
    clear hl
    go_enter Tryz.func106, Tryz.ntmps106
    go_wp2_with (first
      | (go_at_call 70; refine (kind_any (.group l) _ _ _ (H.out.keep (keeps_of_below (by repeat' (first | with_reducible assumption | with_reducible exact Below.refl _ _ | with_reducible refine Below.setCell ?_ ?_ _ | with_reducible refine Below.alloc ?_ ?_ _ | with_reducible refine Below.drew ?_ | with_reducible refine below_drewN ?_ _ | omega | (simp; done) | (simp; omega)))))).mono ?_; rintro e w2 ⟨rfl, hb2⟩; have hB2 := keeps_below (show Below w.heap.size w _ from (by repeat' (first | with_reducible assumption | with_reducible exact Below.refl _ _ | with_reducible refine Below.setCell ?_ ?_ _ | with_reducible refine Below.alloc ?_ ?_ _ | with_reducible refine Below.drew ?_ | with_reducible refine below_drewN ?_ _ | omega | (simp; done) | (simp; omega)))) hb2; obtain ⟨hc2, hf2⟩ := bcell hb2; simp only [SVal.kind])
      | (go_at_call 96; refine (group_any _ A len cap _ _ rfl).mono ?_; rintro e w3 ⟨rfl, hb3⟩; have hB3 := keeps_below (show Below w.heap.size w _ from (by repeat' (first | with_reducible assumption | with_reducible exact Below.refl _ _ | with_reducible refine Below.setCell ?_ ?_ _ | with_reducible refine Below.alloc ?_ ?_ _ | with_reducible refine Below.drew ?_ | with_reducible refine below_drewN ?_ _ | omega | (simp; done) | (simp; omega)))) hb3))
    go_ret
    refine ⟨?_, hB3⟩
    have := Hl.out
    try go_tidy
    cases l with
    | nil => simp [SVal.isEmptyGroup, SAttrs.len] at this ⊢; omega
    | cons k v r => simp [SVal.isEmptyGroup, SAttrs.len] at this ⊢; omega
  · have he : d.isEmptyGroup = false := by cases d <;> simp_all [SVal.kind, SVal.isEmptyGroup]
    subst hi
    rw [he]
    clear h he
    go_enter Tryz.func106, Tryz.ntmps106
    go_wp2_with (go_at_call 70; refine (kind_any d _ _ _ (H.out.keep (keeps_of_below (by repeat' (first | with_reducible assumption | with_reducible exact Below.refl _ _ | with_reducible refine Below.setCell ?_ ?_ _ | with_reducible refine Below.alloc ?_ ?_ _ | with_reducible refine Below.drew ?_ | with_reducible refine below_drewN ?_ _ | omega | (simp; done) | (simp; omega)))))).mono ?_; rintro e w2 ⟨rfl, hb2⟩; have hB2 := keeps_below (show Below w.heap.size w _ from (by repeat' (first | with_reducible assumption | with_reducible exact Below.refl _ _ | with_reducible refine Below.setCell ?_ ?_ _ | with_reducible refine Below.alloc ?_ ?_ _ | with_reducible refine Below.drew ?_ | with_reducible refine below_drewN ?_ _ | omega | (simp; done) | (simp; omega)))) hb2; obtain ⟨hc2, hf2⟩ := bcell hb2)
    all_goals
      go_ret
      exact ⟨rfl, hB2⟩

end Go.Proofs.YtdeomgfapffidaaGreatDoor.Va

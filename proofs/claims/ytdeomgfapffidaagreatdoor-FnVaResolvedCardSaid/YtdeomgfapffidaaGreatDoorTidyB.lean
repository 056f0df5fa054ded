/- What package spec makes of a value, so that it is as it can be read again: the other kinds, and lists (spec.VaTidy, VaTidyAll). -/
import Derived.Test.YtdeomgfapffidaaGreatDoorTidy
namespace Go.Proofs.YtdeomgfapffidaaGreatDoor.Va
set_option linter.unusedVariables false
set_option linter.unusedSimpArgs false
open Go Go.RowKit

section
variable (k n : Int) (s : ByteArray) (t : GTime) (w : World) (A : Option Addr) (len cap : Nat)

set_option maxRecDepth 100000 in
set_option maxHeartbeats 400000 in
theorem tidy_source (l : GAttrs) (hl : RS w l A len) : Calls Tryz.prog 17 #[.agg #[.int .i64 0, .int .u64 13, .string s, .int .i64 t.sec, .int .i64 t.nsec, .int .i64 t.off, .slice A len cap]] w (TidyPost (.mk 0 13 s ⟨t.sec, 0, 0⟩ (.cons l.head GVal.zero .nil)) w) := by
  unfold TidyPost
  have Hl := Lib.hid hl
  clear hl
  go_enter Tryz.func17, Tryz.ntmps17
  go_wp2
  go_region
  all_goals go_wp2_with (go_at_call 41; refine (head_any l _ _ _ _ (Hl.out.keep (keeps_of_below (by repeat' (first | with_reducible assumption | with_reducible exact Below.refl _ _ | with_reducible refine Below.setCell ?_ ?_ _ | with_reducible refine Below.alloc ?_ ?_ _ | with_reducible refine Below.drew ?_ | with_reducible refine below_drewN ?_ _ | omega | (simp; done) | (simp; omega)))))).mono ?_; rintro e w2 ⟨rfl, hb2⟩; have hB2 := keeps_below (show Below w.heap.size w _ from (by repeat' (first | with_reducible assumption | with_reducible exact Below.refl _ _ | with_reducible refine Below.setCell ?_ ?_ _ | with_reducible refine Below.alloc ?_ ?_ _ | with_reducible refine Below.drew ?_ | with_reducible refine below_drewN ?_ _ | omega | (simp; done) | (simp; omega)))) hb2; obtain ⟨hc2, hf2⟩ := bcell hb2; have hs2 := hb2.size; simp at hs2; have hl0 : w.heap.size < w2.heap.size := (by omega); have hl1 : w.heap.size + 1 < w2.heap.size := (by omega); have hl2 : w.heap.size + 1 + 1 < w2.heap.size := (by omega))
  all_goals
    refine bodyPost_ret (v := vVal (.mk 0 13 s ⟨t.sec, 0, 0⟩ (.cons l.head GVal.zero .nil)) (some ⟨w2.heap.size, 0, none⟩) 1 1) ?r rfl ⟨_, 1, 1, rfl, ?s, ?bl⟩
    case r => simp [results, Tryz.results17, go_sem, hc2, hf2, hl0, hl1, hl2, Nat.ne_of_lt hl1]; all_goals (repeat' (first | rfl | apply And.intro))
    case bl => exact (by repeat' (first | with_reducible assumption | with_reducible exact Below.refl _ _ | with_reducible refine Below.setCell ?_ ?_ _ | with_reducible refine Below.alloc ?_ ?_ _ | with_reducible refine Below.drew ?_ | with_reducible refine below_drewN ?_ _ | omega | (simp; done) | (simp; omega)))
    case s =>
      exact ⟨rfl, fun _ => ⟨_, 0, rfl, by simp; omega, ras_single (d := GVal.zero) (by simp [go_sem]) (RSP.nil_ _ _ _)⟩⟩

set_option maxRecDepth 100000 in
set_option maxHeartbeats 400000 in
theorem tidy_both (l : GAttrs) (hl : RS w l A len) : Calls Tryz.prog 17 #[.agg #[.int .i64 0, .int .u64 15, .string s, .int .i64 t.sec, .int .i64 t.nsec, .int .i64 t.off, .slice A len cap]] w (TidyPost (.mk 0 15 s .zero (.cons l.head GVal.zero .nil)) w) := by
  unfold TidyPost
  have Hl := Lib.hid hl
  clear hl
  go_enter Tryz.func17, Tryz.ntmps17
  go_wp2_with (go_at_call 41; refine (head_any l _ _ _ _ (Hl.out.keep (keeps_of_below (by repeat' (first | with_reducible assumption | with_reducible exact Below.refl _ _ | with_reducible refine Below.setCell ?_ ?_ _ | with_reducible refine Below.alloc ?_ ?_ _ | with_reducible refine Below.drew ?_ | with_reducible refine below_drewN ?_ _ | omega | (simp; done) | (simp; omega)))))).mono ?_; rintro e w2 ⟨rfl, hb2⟩; have hB2 := keeps_below (show Below w.heap.size w _ from (by repeat' (first | with_reducible assumption | with_reducible exact Below.refl _ _ | with_reducible refine Below.setCell ?_ ?_ _ | with_reducible refine Below.alloc ?_ ?_ _ | with_reducible refine Below.drew ?_ | with_reducible refine below_drewN ?_ _ | omega | (simp; done) | (simp; omega)))) hb2; obtain ⟨hc2, hf2⟩ := bcell hb2; have hs2 := hb2.size; simp at hs2; have hl0 : w.heap.size < w2.heap.size := (by omega); have hl1 : w.heap.size + 1 < w2.heap.size := (by omega); have hl2 : w.heap.size + 1 + 1 < w2.heap.size := (by omega))
  all_goals
    refine bodyPost_ret (v := vVal (.mk 0 15 s .zero (.cons l.head GVal.zero .nil)) (some ⟨w2.heap.size, 0, none⟩) 1 1) ?r rfl ⟨_, 1, 1, rfl, ?s, ?bl⟩
    case r => simp [results, Tryz.results17, go_sem, hc2, hf2, hl0, hl1, hl2, Nat.ne_of_lt hl1]; all_goals (repeat' (first | rfl | apply And.intro))
    case bl => exact (by repeat' (first | with_reducible assumption | with_reducible exact Below.refl _ _ | with_reducible refine Below.setCell ?_ ?_ _ | with_reducible refine Below.alloc ?_ ?_ _ | with_reducible refine Below.drew ?_ | with_reducible refine below_drewN ?_ _ | omega | (simp; done) | (simp; omega)))
    case s =>
      exact ⟨rfl, fun _ => ⟨_, 0, rfl, by simp; omega, ras_single (d := GVal.zero) (by simp [go_sem]) (RSP.nil_ _ _ _)⟩⟩

set_option maxRecDepth 100000 in
set_option maxHeartbeats 400000 in
theorem tidy_group (l : GAttrs) (hsz : l.size ≤ 700000) (ih : TidyL l) (hl : RS w l A len) : Calls Tryz.prog 17 #[.agg #[.int .i64 8, .int .u64 n, .string s, .int .i64 t.sec, .int .i64 t.nsec, .int .i64 t.off, .slice A len cap]] w (TidyPost (.mk 8 0 ByteArray.empty .zero (vaTidyAll l)) w) := by
  unfold TidyPost
  have Hl := Lib.hid hl
  have Hih := Lib.hid ih
  clear hl ih
  go_enter Tryz.func17, Tryz.ntmps17
  go_wp2_with (go_at_call 26; refine (Hih.out _ _ _ _ hsz (Hl.out.keep (keeps_of_below (by repeat' (first | with_reducible assumption | with_reducible exact Below.refl _ _ | with_reducible refine Below.setCell ?_ ?_ _ | with_reducible refine Below.alloc ?_ ?_ _ | with_reducible refine Below.drew ?_ | with_reducible refine below_drewN ?_ _ | omega | (simp; done) | (simp; omega)))))).mono ?_; rintro e w2 ⟨A2, len2, cap2, rfl, hr2, hb2⟩; have hB2 := keeps_below (show Below w.heap.size w _ from (by repeat' (first | with_reducible assumption | with_reducible exact Below.refl _ _ | with_reducible refine Below.setCell ?_ ?_ _ | with_reducible refine Below.alloc ?_ ?_ _ | with_reducible refine Below.drew ?_ | with_reducible refine below_drewN ?_ _ | omega | (simp; done) | (simp; omega)))) hb2; obtain ⟨hc2, hf2⟩ := bcell hb2; have hs2 := hb2.size; simp at hs2; have hl0 : w.heap.size < w2.heap.size := (by omega); have hl1 : w.heap.size + 1 < w2.heap.size := (by omega); have hl2 : w.heap.size + 1 + 1 < w2.heap.size := (by omega))
  refine bodyPost_ret (v := vVal (.mk 8 0 ByteArray.empty .zero (vaTidyAll l)) A2 len2 cap2) ?r rfl ⟨_, _, _, rfl, ?s, ?bl⟩
  case r => simp [results, Tryz.results17, go_sem, hc2, hf2, hl0, hl1, hl2, Nat.ne_of_lt hl1]; all_goals (repeat' (first | rfl | apply And.intro))
  case bl => exact (by repeat' (first | with_reducible assumption | with_reducible exact Below.refl _ _ | with_reducible refine Below.setCell ?_ ?_ _ | with_reducible refine Below.alloc ?_ ?_ _ | with_reducible refine Below.drew ?_ | with_reducible refine below_drewN ?_ _ | omega | (simp; done) | (simp; omega)))
  case s => exact hr2.turn (by repeat' (first | with_reducible assumption | with_reducible exact KeepsOn.refl _ _ | with_reducible refine KeepsOn.setCell ?_ ?_ _ | with_reducible refine KeepsOn.alloc ?_ _ | with_reducible refine KeepsOn.drew ?_ | (intro b hb; simp at hb ⊢; omega) | (rintro b ⟨_, hb⟩; simp at hb ⊢; omega) | (rintro b ⟨_, hb⟩; omega))) (fun b hb _ => by simp at hb ⊢; omega)

set_option maxRecDepth 100000 in
set_option maxHeartbeats 400000 in
theorem tidy_throws (hs : ¬ s = ByteArray.empty) : Calls Tryz.prog 17 #[.agg #[.int .i64 9, .int .u64 n, .string s, .int .i64 t.sec, .int .i64 t.nsec, .int .i64 t.off, .slice A len cap]] w (TidyPost (.mk 9 n s .zero .nil) w) := by
  unfold TidyPost
  have hsl := toList_ne hs
  go_enter Tryz.func17, Tryz.ntmps17
  go_wp2
  go_region
  all_goals go_wp2
  all_goals first
    | (exfalso; exact hs (by assumption))
    | exact bodyPost_ret (v := vVal (.mk 9 n s .zero .nil) none 0 0) (by simp [results, Tryz.results17, go_sem]; all_goals (repeat' (first | rfl | apply And.intro))) rfl ⟨none, 0, 0, rfl, RSP.nil_ _ _ _, (by repeat' (first | with_reducible assumption | with_reducible exact Below.refl _ _ | with_reducible refine Below.setCell ?_ ?_ _ | with_reducible refine Below.alloc ?_ ?_ _ | with_reducible refine Below.drew ?_ | with_reducible refine below_drewN ?_ _ | omega | (simp; done) | (simp; omega)))⟩

set_option maxRecDepth 100000 in
set_option maxHeartbeats 400000 in
theorem tidy_valuer (l : GAttrs) (hsz : l.size < 700000) (ih : EndV (.mk 9 n ByteArray.empty t l)) (hl : RS w l A len) : Calls Tryz.prog 17 #[.agg #[.int .i64 9, .int .u64 n, .string ByteArray.empty, .int .i64 t.sec, .int .i64 t.nsec, .int .i64 t.off, .slice A len cap]] w (TidyPost (.mk 9 n ByteArray.empty .zero (.cons ByteArray.empty (vaEnd l) .nil)) w) := by
  unfold TidyPost
  have Hl := Lib.hid hl
  have Hih := Lib.hid ih
  clear hl ih
  go_enter Tryz.func17, Tryz.ntmps17
  go_wp2
  go_region
  all_goals
    go_wp2_with (go_at_call 42; refine (Hih.out _ _ _ _ (by simp only [GVal.size]; omega) (Hl.out.keep (keeps_of_below (by repeat' (first | with_reducible assumption | with_reducible exact Below.refl _ _ | with_reducible refine Below.setCell ?_ ?_ _ | with_reducible refine Below.alloc ?_ ?_ _ | with_reducible refine Below.drew ?_ | with_reducible refine below_drewN ?_ _ | omega | (simp; done) | (simp; omega)))))).mono ?_; rintro e w2 ⟨A2, len2, cap2, rfl, hr2, hb2⟩; have hB2 := keeps_below (show Below w.heap.size w _ from (by repeat' (first | with_reducible assumption | with_reducible exact Below.refl _ _ | with_reducible refine Below.setCell ?_ ?_ _ | with_reducible refine Below.alloc ?_ ?_ _ | with_reducible refine Below.drew ?_ | with_reducible refine below_drewN ?_ _ | omega | (simp; done) | (simp; omega)))) hb2; obtain ⟨hc2, hf2⟩ := bcell hb2; have hs2 := hb2.size; simp at hs2; have hl0 : w.heap.size < w2.heap.size := (by omega); have hl1 : w.heap.size + 1 < w2.heap.size := (by omega); have hl2 : w.heap.size + 1 + 1 < w2.heap.size := (by omega))
    refine bodyPost_ret (v := vVal (.mk 9 n ByteArray.empty .zero (.cons ByteArray.empty (vaEnd l) .nil)) (some ⟨w2.heap.size, 0, none⟩) 1 1) ?r rfl ⟨_, 1, 1, rfl, ?s, ?bl⟩
    case r => simp [results, Tryz.results17, go_sem, hc2, hf2, hl0, hl1, hl2, Nat.ne_of_lt hl1]; all_goals (repeat' (first | rfl | apply And.intro))
    case bl => exact (by repeat' (first | with_reducible assumption | with_reducible exact Below.refl _ _ | with_reducible refine Below.setCell ?_ ?_ _ | with_reducible refine Below.alloc ?_ ?_ _ | with_reducible refine Below.drew ?_ | with_reducible refine below_drewN ?_ _ | omega | (simp; done) | (simp; omega)))
    case s => exact ⟨rfl, fun _ => ⟨_, 0, rfl, by simp; omega, ras_single (by simp [go_sem]) (hr2.turn (by repeat' (first | with_reducible assumption | with_reducible exact KeepsOn.refl _ _ | with_reducible refine KeepsOn.setCell ?_ ?_ _ | with_reducible refine KeepsOn.alloc ?_ _ | with_reducible refine KeepsOn.drew ?_ | (intro b hb; simp at hb ⊢; omega) | (rintro b ⟨_, hb⟩; simp at hb ⊢; omega) | (rintro b ⟨_, hb⟩; omega))) (fun b hb _ => by simp at hb ⊢; omega))⟩⟩

end

end Go.Proofs.YtdeomgfapffidaaGreatDoor.Va

/- The values of package slog that Vals stand for (impl.valueOf): groups, values that give others, values of any type, and all kinds. -/
import Derived.Test.YtdeomgfapffidaaGreatDoorOfB
namespace Go.Proofs.YtdeomgfapffidaaGreatDoor.Va
set_option linter.unusedVariables false
set_option linter.unusedSimpArgs false
open Go Go.RowKit

theorem rany_any {P : Nat → Prop} {w : World} {g : GAny} {y : Value} (h : RAny P w g y) : y = .nilIface ∨ ∃ t u, y = .iface t u :=
  rsv_any (P := P) (w := w) (d := .any g) (x := .int .u64 0) (y := y) (by unfold RSV; exact ⟨rfl, h⟩)

section
variable (c : Option Addr) (n : Int) (s : ByteArray) (t : GTime) (w : World) (A : Option Addr) (len cap : Nat)

set_option maxRecDepth 100000 in
set_option maxHeartbeats 400000 in
theorem of_throws (hs : ¬ s = ByteArray.empty) : Calls Tryz.prog 45 #[.agg #[.int .i64 9, .int .u64 n, .string s, .int .i64 t.sec, .int .i64 t.nsec, .int .i64 t.off, .slice A len cap], .pointer c] w (ValPost (.throws s c) w) := by
  unfold ValPost
  have hsl := toList_ne hs
  go_enter Tryz.func45, Tryz.ntmps45
  go_wp2_with (go_at_call 47; refine (anyValue_throws s c _).mono ?_; rintro e w2 ⟨rfl, hb2⟩; have hB2 := keeps_below (show Below w.heap.size w _ from (by repeat' (first | with_reducible assumption | with_reducible exact Below.refl _ _ | with_reducible refine Below.setCell ?_ ?_ _ | with_reducible refine Below.alloc ?_ ?_ _ | with_reducible refine Below.drew ?_ | with_reducible refine below_drewN ?_ _ | omega | (simp; done) | (simp; omega)))) hb2; obtain ⟨hc2, hf2⟩ := bcell hb2; have hs2 := hb2.size; (try simp at hs2); have hl0_2 : w.heap.size < w2.heap.size := (by omega); have hl1_2 : w.heap.size + 1 < w2.heap.size := (by omega))
  exact bodyPost_ret (v := .agg #[.int .u64 0, .iface 142 (.agg #[.string s, .pointer c])]) (by simp [results, Tryz.results45, go_sem, hc2, hf2, hl0_2, hl1_2]) rfl ⟨_, _, rfl, by unfold RSV; exact ⟨rfl, rfl⟩, (by repeat' (first | with_reducible assumption | with_reducible exact Below.refl _ _ | with_reducible refine Below.setCell ?_ ?_ _ | with_reducible refine Below.alloc ?_ ?_ _ | with_reducible refine Below.drew ?_ | with_reducible refine below_drewN ?_ _ | omega | (simp; done) | (simp; omega)))⟩

set_option maxRecDepth 100000 in
set_option maxHeartbeats 400000 in
theorem of_any (k : Int) (hk : ¬ k = 1 ∧ ¬ k = 2 ∧ ¬ k = 3 ∧ ¬ k = 4 ∧ ¬ k = 5 ∧ ¬ k = 6 ∧ ¬ k = 7 ∧ ¬ k = 8 ∧ ¬ k = 9) (l : GAttrs) (hl : RS w l A len) : Calls Tryz.prog 45 #[.agg #[.int .i64 k, .int .u64 n, .string s, .int .i64 t.sec, .int .i64 t.nsec, .int .i64 t.off, .slice A len cap], .pointer c] w (ValPost (.any (anyOf n s t l)) w) := by
  unfold ValPost
  have Hl := Lib.hid hl
  obtain ⟨q1, q2, q3, q4, q5, q6, q7, q8, q9⟩ := hk
  clear hl
  go_enter Tryz.func45, Tryz.ntmps45
  go_wp2_with (first
    | (go_at_call 91; refine (anyOf_any k n s t l _ A len cap (Hl.out.keep (keeps_of_below (by repeat' (first | with_reducible assumption | with_reducible exact Below.refl _ _ | with_reducible refine Below.setCell ?_ ?_ _ | with_reducible refine Below.alloc ?_ ?_ _ | with_reducible refine Below.drew ?_ | with_reducible refine below_drewN ?_ _ | omega | (simp; done) | (simp; omega)))))).mono ?_; rintro e w2 ⟨v2, rfl, hr2, hb2⟩; have HR2 := Lib.hid hr2; clear hr2; have hB2 := keeps_below (show Below w.heap.size w _ from (by repeat' (first | with_reducible assumption | with_reducible exact Below.refl _ _ | with_reducible refine Below.setCell ?_ ?_ _ | with_reducible refine Below.alloc ?_ ?_ _ | with_reducible refine Below.drew ?_ | with_reducible refine below_drewN ?_ _ | omega | (simp; done) | (simp; omega)))) hb2; obtain ⟨hc2, hf2⟩ := bcell hb2; have hs2 := hb2.size; (try simp at hs2); have hl0_2 : w.heap.size < w2.heap.size := (by omega); have hl1_2 : w.heap.size + 1 < w2.heap.size := (by omega))
    | (go_at_call 47; refine (anyValue_any (anyOf n s t l) _ _ HR2.out).mono ?_; rintro e w3 ⟨v3, rfl, hr3, hb3⟩; have HR3 := Lib.hid hr3; have hsh := rany_any hr3; clear hr3; have hB3 := keeps_below (show Below w.heap.size w _ from (by repeat' (first | with_reducible assumption | with_reducible exact Below.refl _ _ | with_reducible refine Below.setCell ?_ ?_ _ | with_reducible refine Below.alloc ?_ ?_ _ | with_reducible refine Below.drew ?_ | with_reducible refine below_drewN ?_ _ | omega | (simp; done) | (simp; omega)))) hb3; obtain ⟨hc3, hf3⟩ := bcell hb3; have hs3 := hb3.size; (try simp at hs3); have hl0_3 : w.heap.size < w3.heap.size := (by omega); have hl1_3 : w.heap.size + 1 < w3.heap.size := (by omega); rcases hsh with rfl | ⟨ty, u, rfl⟩))
  · exact bodyPost_ret (v := .agg #[.int .u64 0, .nilIface]) (by simp [results, Tryz.results45, go_sem, hc2, hf2, hl0_2, hl1_2, hc3, hf3, hl0_3, hl1_3]) rfl ⟨_, _, rfl, by unfold RSV; exact ⟨rfl, HR3.out.turn (by repeat' (first | with_reducible assumption | with_reducible exact KeepsOn.refl _ _ | with_reducible refine KeepsOn.setCell ?_ ?_ _ | with_reducible refine KeepsOn.alloc ?_ _ | with_reducible refine KeepsOn.drew ?_ | (intro b hb; simp at hb ⊢; omega) | (rintro b ⟨_, hb⟩; simp at hb ⊢; omega) | (rintro b ⟨_, hb⟩; omega))) (fun b hb _ => by simp at hb ⊢; omega)⟩, (by repeat' (first | with_reducible assumption | with_reducible exact Below.refl _ _ | with_reducible refine Below.setCell ?_ ?_ _ | with_reducible refine Below.alloc ?_ ?_ _ | with_reducible refine Below.drew ?_ | with_reducible refine below_drewN ?_ _ | omega | (simp; done) | (simp; omega)))⟩
  · exact bodyPost_ret (v := .agg #[.int .u64 0, .iface ty u]) (by simp [results, Tryz.results45, go_sem, hc2, hf2, hl0_2, hl1_2, hc3, hf3, hl0_3, hl1_3]) rfl ⟨_, _, rfl, by unfold RSV; exact ⟨rfl, HR3.out.turn (by repeat' (first | with_reducible assumption | with_reducible exact KeepsOn.refl _ _ | with_reducible refine KeepsOn.setCell ?_ ?_ _ | with_reducible refine KeepsOn.alloc ?_ _ | with_reducible refine KeepsOn.drew ?_ | (intro b hb; simp at hb ⊢; omega) | (rintro b ⟨_, hb⟩; simp at hb ⊢; omega) | (rintro b ⟨_, hb⟩; omega))) (fun b hb _ => by simp at hb ⊢; omega)⟩, (by repeat' (first | with_reducible assumption | with_reducible exact Below.refl _ _ | with_reducible refine Below.setCell ?_ ?_ _ | with_reducible refine Below.alloc ?_ ?_ _ | with_reducible refine Below.drew ?_ | with_reducible refine below_drewN ?_ _ | omega | (simp; done) | (simp; omega)))⟩

end

end Go.Proofs.YtdeomgfapffidaaGreatDoor.Va

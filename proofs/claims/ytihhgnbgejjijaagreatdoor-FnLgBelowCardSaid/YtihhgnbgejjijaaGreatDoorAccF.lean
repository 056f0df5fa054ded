/- The accessors of package slog's Value: what they give. -/
import Derived.Test.YtihhgnbgejjijaaGreatDoorAcc
namespace Go.Proofs.YtihhgnbgejjijaaGreatDoor.Va
set_option linter.unusedVariables false
set_option linter.unusedSimpArgs false
open Go Go.RowKit

set_option maxRecDepth 100000 in
set_option maxHeartbeats 1000000 in
theorem get_Bool (n : Int) (w : World) (h0 : 0 ≤ n) (h1 : n ≤ 18446744073709551615) : Calls Tryz.prog 146 #[.agg #[.int .u64 n, .iface 198 (.int .i64 1)]] w fun e w' => e = .returned (.bool (n == 1)) ∧ Below w.heap.size w w' := by
  have cK := fun wx => kind_any (P := fun _ => True) ((.num 1 n)) wx _ _ (by unfold RSV; exact ⟨rfl, rfl, by omega, h0, h1⟩)
  simp only [SVal.kind] at cK
  have CK := Lib.hid (fun wx (_ : Keeps w wx) => cK wx)
  clear cK
  go_enter Tryz.func146, Tryz.ntmps146
  go_wp2_with (first
    | (go_at_call 133; (with_reducible refine (CK.out _ (keeps_of_below (by repeat' (first | with_reducible assumption | with_reducible exact Below.refl _ _ | with_reducible refine Below.setCell ?_ ?_ _ | with_reducible refine Below.alloc ?_ ?_ _ | with_reducible refine Below.drew ?_ | with_reducible refine below_drewN ?_ _ | omega | (simp; done) | (simp; omega))))).mono ?_); rintro e w1 ⟨rfl, hb1⟩; have hB1 := keeps_below (show Below w.heap.size w _ from (by repeat' (first | with_reducible assumption | with_reducible exact Below.refl _ _ | with_reducible refine Below.setCell ?_ ?_ _ | with_reducible refine Below.alloc ?_ ?_ _ | with_reducible refine Below.drew ?_ | with_reducible refine below_drewN ?_ _ | omega | (simp; done) | (simp; omega)))) hb1; obtain ⟨hc1, hf1⟩ := bcell hb1; have hz1 := hb1.size; (try simp at hz1); have e10 : w.heap.size < w1.heap.size := (by omega); (try have e11 : w.heap.size + 1 < w1.heap.size := (by omega))))
  go_wp2
  go_ret
  exact ⟨rfl, (by repeat' (first | with_reducible assumption | with_reducible exact Below.refl _ _ | with_reducible refine Below.setCell ?_ ?_ _ | with_reducible refine Below.alloc ?_ ?_ _ | with_reducible refine Below.drew ?_ | with_reducible refine below_drewN ?_ _ | omega | (simp; done) | (simp; omega)))⟩

set_option maxRecDepth 100000 in
set_option maxHeartbeats 1000000 in
theorem get_Duration (n : Int) (w : World) (h0 : 0 ≤ n) (h1 : n ≤ 18446744073709551615) : Calls Tryz.prog 147 #[.agg #[.int .u64 n, .iface 198 (.int .i64 2)]] w fun e w' => e = .returned (.int .i64 (wrap64 n)) ∧ Below w.heap.size w w' := by
  have cK := fun wx => kind_any (P := fun _ => True) ((.num 2 n)) wx _ _ (by unfold RSV; exact ⟨rfl, rfl, by omega, h0, h1⟩)
  simp only [SVal.kind] at cK
  have CK := Lib.hid (fun wx (_ : Keeps w wx) => cK wx)
  clear cK
  go_enter Tryz.func147, Tryz.ntmps147
  go_wp2_with (first
    | (go_at_call 133; (with_reducible refine (CK.out _ (keeps_of_below (by repeat' (first | with_reducible assumption | with_reducible exact Below.refl _ _ | with_reducible refine Below.setCell ?_ ?_ _ | with_reducible refine Below.alloc ?_ ?_ _ | with_reducible refine Below.drew ?_ | with_reducible refine below_drewN ?_ _ | omega | (simp; done) | (simp; omega))))).mono ?_); rintro e w1 ⟨rfl, hb1⟩; have hB1 := keeps_below (show Below w.heap.size w _ from (by repeat' (first | with_reducible assumption | with_reducible exact Below.refl _ _ | with_reducible refine Below.setCell ?_ ?_ _ | with_reducible refine Below.alloc ?_ ?_ _ | with_reducible refine Below.drew ?_ | with_reducible refine below_drewN ?_ _ | omega | (simp; done) | (simp; omega)))) hb1; obtain ⟨hc1, hf1⟩ := bcell hb1; have hz1 := hb1.size; (try simp at hz1); have e10 : w.heap.size < w1.heap.size := (by omega); (try have e11 : w.heap.size + 1 < w1.heap.size := (by omega))))
  go_wp2
  go_ret
  exact ⟨rfl, (by repeat' (first | with_reducible assumption | with_reducible exact Below.refl _ _ | with_reducible refine Below.setCell ?_ ?_ _ | with_reducible refine Below.alloc ?_ ?_ _ | with_reducible refine Below.drew ?_ | with_reducible refine below_drewN ?_ _ | omega | (simp; done) | (simp; omega)))⟩

set_option maxRecDepth 100000 in
set_option maxHeartbeats 1000000 in
theorem get_Float64 (n : Int) (w : World) (h0 : 0 ≤ n) (h1 : n ≤ 18446744073709551615) : Calls Tryz.prog 149 #[.agg #[.int .u64 n, .iface 198 (.int .i64 3)]] w fun e w' => e = .returned (.float .f64 n.toNat) ∧ Below w.heap.size w w' := by
  have cK := fun wx => kind_any (P := fun _ => True) ((.num 3 n)) wx _ _ (by unfold RSV; exact ⟨rfl, rfl, by omega, h0, h1⟩)
  simp only [SVal.kind] at cK
  have CK := Lib.hid (fun wx (_ : Keeps w wx) => cK wx)
  clear cK
  have h1r := frombits_run
  go_enter Tryz.func149, Tryz.ntmps149
  go_wp2_with (first
    | (go_at_call 133; (with_reducible refine (CK.out _ (keeps_of_below (by repeat' (first | with_reducible assumption | with_reducible exact Below.refl _ _ | with_reducible refine Below.setCell ?_ ?_ _ | with_reducible refine Below.alloc ?_ ?_ _ | with_reducible refine Below.drew ?_ | with_reducible refine below_drewN ?_ _ | omega | (simp; done) | (simp; omega))))).mono ?_); rintro e w1 ⟨rfl, hb1⟩; have hB1 := keeps_below (show Below w.heap.size w _ from (by repeat' (first | with_reducible assumption | with_reducible exact Below.refl _ _ | with_reducible refine Below.setCell ?_ ?_ _ | with_reducible refine Below.alloc ?_ ?_ _ | with_reducible refine Below.drew ?_ | with_reducible refine below_drewN ?_ _ | omega | (simp; done) | (simp; omega)))) hb1; obtain ⟨hc1, hf1⟩ := bcell hb1; have hz1 := hb1.size; (try simp at hz1); have e10 : w.heap.size < w1.heap.size := (by omega); (try have e11 : w.heap.size + 1 < w1.heap.size := (by omega))))
  go_wp2
  go_ret
  exact ⟨rfl, (by repeat' (first | with_reducible assumption | with_reducible exact Below.refl _ _ | with_reducible refine Below.setCell ?_ ?_ _ | with_reducible refine Below.alloc ?_ ?_ _ | with_reducible refine Below.drew ?_ | with_reducible refine below_drewN ?_ _ | omega | (simp; done) | (simp; omega)))⟩

set_option maxRecDepth 100000 in
set_option maxHeartbeats 1000000 in
theorem get_Int64 (n : Int) (w : World) (h0 : 0 ≤ n) (h1 : n ≤ 18446744073709551615) : Calls Tryz.prog 150 #[.agg #[.int .u64 n, .iface 198 (.int .i64 4)]] w fun e w' => e = .returned (.int .i64 (wrap64 n)) ∧ Below w.heap.size w w' := by
  have cK := fun wx => kind_any (P := fun _ => True) ((.num 4 n)) wx _ _ (by unfold RSV; exact ⟨rfl, rfl, by omega, h0, h1⟩)
  simp only [SVal.kind] at cK
  have CK := Lib.hid (fun wx (_ : Keeps w wx) => cK wx)
  clear cK
  go_enter Tryz.func150, Tryz.ntmps150
  go_wp2_with (first
    | (go_at_call 133; (with_reducible refine (CK.out _ (keeps_of_below (by repeat' (first | with_reducible assumption | with_reducible exact Below.refl _ _ | with_reducible refine Below.setCell ?_ ?_ _ | with_reducible refine Below.alloc ?_ ?_ _ | with_reducible refine Below.drew ?_ | with_reducible refine below_drewN ?_ _ | omega | (simp; done) | (simp; omega))))).mono ?_); rintro e w1 ⟨rfl, hb1⟩; have hB1 := keeps_below (show Below w.heap.size w _ from (by repeat' (first | with_reducible assumption | with_reducible exact Below.refl _ _ | with_reducible refine Below.setCell ?_ ?_ _ | with_reducible refine Below.alloc ?_ ?_ _ | with_reducible refine Below.drew ?_ | with_reducible refine below_drewN ?_ _ | omega | (simp; done) | (simp; omega)))) hb1; obtain ⟨hc1, hf1⟩ := bcell hb1; have hz1 := hb1.size; (try simp at hz1); have e10 : w.heap.size < w1.heap.size := (by omega); (try have e11 : w.heap.size + 1 < w1.heap.size := (by omega))))
  go_wp2
  go_ret
  exact ⟨rfl, (by repeat' (first | with_reducible assumption | with_reducible exact Below.refl _ _ | with_reducible refine Below.setCell ?_ ?_ _ | with_reducible refine Below.alloc ?_ ?_ _ | with_reducible refine Below.drew ?_ | with_reducible refine below_drewN ?_ _ | omega | (simp; done) | (simp; omega)))⟩

set_option maxRecDepth 100000 in
set_option maxHeartbeats 1000000 in
theorem get_Uint64 (n : Int) (w : World) (h0 : 0 ≤ n) (h1 : n ≤ 18446744073709551615) : Calls Tryz.prog 152 #[.agg #[.int .u64 n, .iface 198 (.int .i64 7)]] w fun e w' => e = .returned (.int .u64 n) ∧ Below w.heap.size w w' := by
  have cK := fun wx => kind_any (P := fun _ => True) ((.num 7 n)) wx _ _ (by unfold RSV; exact ⟨rfl, rfl, by omega, h0, h1⟩)
  simp only [SVal.kind] at cK
  have CK := Lib.hid (fun wx (_ : Keeps w wx) => cK wx)
  clear cK
  go_enter Tryz.func152, Tryz.ntmps152
  go_wp2_with (first
    | (go_at_call 133; (with_reducible refine (CK.out _ (keeps_of_below (by repeat' (first | with_reducible assumption | with_reducible exact Below.refl _ _ | with_reducible refine Below.setCell ?_ ?_ _ | with_reducible refine Below.alloc ?_ ?_ _ | with_reducible refine Below.drew ?_ | with_reducible refine below_drewN ?_ _ | omega | (simp; done) | (simp; omega))))).mono ?_); rintro e w1 ⟨rfl, hb1⟩; have hB1 := keeps_below (show Below w.heap.size w _ from (by repeat' (first | with_reducible assumption | with_reducible exact Below.refl _ _ | with_reducible refine Below.setCell ?_ ?_ _ | with_reducible refine Below.alloc ?_ ?_ _ | with_reducible refine Below.drew ?_ | with_reducible refine below_drewN ?_ _ | omega | (simp; done) | (simp; omega)))) hb1; obtain ⟨hc1, hf1⟩ := bcell hb1; have hz1 := hb1.size; (try simp at hz1); have e10 : w.heap.size < w1.heap.size := (by omega); (try have e11 : w.heap.size + 1 < w1.heap.size := (by omega))))
  go_wp2
  go_ret
  exact ⟨rfl, (by repeat' (first | with_reducible assumption | with_reducible exact Below.refl _ _ | with_reducible refine Below.setCell ?_ ?_ _ | with_reducible refine Below.alloc ?_ ?_ _ | with_reducible refine Below.drew ?_ | with_reducible refine below_drewN ?_ _ | omega | (simp; done) | (simp; omega)))⟩

theorem get_Group (i : Int) (A : Option Addr) (len cap : Nat) (w : World) : Calls Tryz.prog 153 #[.agg #[.int .u64 i, .iface 245 (.slice A len cap)]] w fun e w' => e = .returned (.slice A len cap) ∧ Below w.heap.size w w' := by
  go_enter Tryz.func153, Tryz.ntmps153
  go_wp2
  go_ret
  exact ⟨rfl, (by repeat' (first | with_reducible assumption | with_reducible exact Below.refl _ _ | with_reducible refine Below.setCell ?_ ?_ _ | with_reducible refine Below.alloc ?_ ?_ _ | with_reducible refine Below.drew ?_ | with_reducible refine below_drewN ?_ _ | omega | (simp; done) | (simp; omega)))⟩

theorem get_LogValuer (i : Int) (t : TypeId) (ht : t = 196 ∨ t = 194) (u : Value) (w : World) : Calls Tryz.prog 144 #[.agg #[.int .u64 i, .iface t u]] w fun e w' => e = .returned (.iface t u) ∧ Below w.heap.size w w' := by
  rcases ht with rfl | rfl
  all_goals
    go_enter Tryz.func144, Tryz.ntmps144
    go_wp2
    go_ret
    exact ⟨rfl, (by repeat' (first | with_reducible assumption | with_reducible exact Below.refl _ _ | with_reducible refine Below.setCell ?_ ?_ _ | with_reducible refine Below.alloc ?_ ?_ _ | with_reducible refine Below.drew ?_ | with_reducible refine below_drewN ?_ _ | omega | (simp; done) | (simp; omega)))⟩

set_option maxRecDepth 100000 in
set_option maxHeartbeats 1000000 in
theorem get_Time (t : GTime) (w : World) : Calls Tryz.prog 151 #[.agg #[.int .u64 0, .iface 243 (.agg #[.int .i64 t.sec, .int .i64 t.nsec, .int .i64 t.off, .string (zone t)])]] w fun e w' => e = .returned (.agg #[.int .i64 t.sec, .int .i64 t.nsec, .int .i64 t.off, .string (zone t)]) ∧ Below w.heap.size w w' := by
  have cK := fun wx => kind_any (P := fun _ => True) (.time t) wx _ _ (by unfold RSV; exact ⟨rfl, rfl⟩)
  simp only [SVal.kind] at cK
  have CK := Lib.hid (fun wx (_ : Keeps w wx) => cK wx)
  clear cK
  generalize zone t = z at CK ⊢
  go_enter Tryz.func151, Tryz.ntmps151
  go_wp2_with (first
    | (go_at_call 133; (with_reducible refine (CK.out _ (keeps_of_below (by repeat' (first | with_reducible assumption | with_reducible exact Below.refl _ _ | with_reducible refine Below.setCell ?_ ?_ _ | with_reducible refine Below.alloc ?_ ?_ _ | with_reducible refine Below.drew ?_ | with_reducible refine below_drewN ?_ _ | omega | (simp; done) | (simp; omega))))).mono ?_); rintro e w1 ⟨rfl, hb1⟩; have hB1 := keeps_below (show Below w.heap.size w _ from (by repeat' (first | with_reducible assumption | with_reducible exact Below.refl _ _ | with_reducible refine Below.setCell ?_ ?_ _ | with_reducible refine Below.alloc ?_ ?_ _ | with_reducible refine Below.drew ?_ | with_reducible refine below_drewN ?_ _ | omega | (simp; done) | (simp; omega)))) hb1; obtain ⟨hc1, hf1⟩ := bcell hb1; have hz1 := hb1.size; (try simp at hz1); have e10 : w.heap.size < w1.heap.size := (by omega); (try have e11 : w.heap.size + 1 < w1.heap.size := (by omega)))
    | (go_at_call 136; refine (time_any 0 t.sec t.nsec t.off z _).mono ?_; rintro e w2 ⟨rfl, hb2⟩; have hB2 := keeps_below (show Below w.heap.size w _ from (by repeat' (first | with_reducible assumption | with_reducible exact Below.refl _ _ | with_reducible refine Below.setCell ?_ ?_ _ | with_reducible refine Below.alloc ?_ ?_ _ | with_reducible refine Below.drew ?_ | with_reducible refine below_drewN ?_ _ | omega | (simp; done) | (simp; omega)))) hb2; obtain ⟨hc2, hf2⟩ := bcell hb2; have hz2 := hb2.size; have e20 : w.heap.size < w2.heap.size := (by omega); have e21 : w.heap.size + 1 < w2.heap.size := (by omega)))
  exact bodyPost_ret (v := .agg #[.int .i64 t.sec, .int .i64 t.nsec, .int .i64 t.off, .string z]) (by simp [results, Tryz.results151, go_sem, hc1, hf1, hc2, hf2, e10, e11, e20, e21]) rfl ⟨rfl, (by repeat' (first | with_reducible assumption | with_reducible exact Below.refl _ _ | with_reducible refine Below.setCell ?_ ?_ _ | with_reducible refine Below.alloc ?_ ?_ _ | with_reducible refine Below.drew ?_ | with_reducible refine below_drewN ?_ _ | omega | (simp; done) | (simp; omega)))⟩


end Go.Proofs.YtihhgnbgejjijaaGreatDoor.Va

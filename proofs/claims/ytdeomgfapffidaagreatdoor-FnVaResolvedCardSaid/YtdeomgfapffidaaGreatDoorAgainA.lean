/- What Value.Any gives of a value of any kind. -/
import Derived.Test.YtdeomgfapffidaaGreatDoorAnyG
import Derived.Test.YtdeomgfapffidaaGreatDoorOfD
namespace Go.Proofs.YtdeomgfapffidaaGreatDoor.Va
set_option linter.unusedVariables false
set_option linter.unusedSimpArgs false
open Go Go.RowKit

/-- A value as the Go value that Any gives of it. -/
def Raw (P : Nat → Prop) (w : World) : SVal → Value → Prop
  | .num k n, z => (0 ≤ n ∧ n ≤ 18446744073709551615) ∧ ((k = 1 ∧ z = .iface 4 (.bool (n == 1))) ∨ (k = 2 ∧ z = .iface 128 (.int .i64 (wrap64 n))) ∨ (k = 3 ∧ z = .iface 131 (.float .f64 n.toNat)) ∨ (k = 4 ∧ z = .iface 2 (.int .i64 (wrap64 n))) ∨ (k = 7 ∧ z = .iface 22 (.int .u64 n)))
  | .str s, z => z = .iface 9 (.string s)
  | .time t, z => z = .iface 106 (.agg #[.int .i64 t.sec, .int .i64 t.nsec, .int .i64 t.off, .string (zone t)])
  | .group l, z => ∃ A len cap, z = .iface 88 (.slice A len cap) ∧ RSS P w l A len
  | .any g, z => RRaw P w g z
  | .valuer n v c, z => ∃ vx vy, z = .iface 144 (.agg #[.int .u64 n, vx, vy, .pointer c]) ∧ RSV P w v vx vy
  | .throws s c, z => z = .iface 142 (.agg #[.string s, .pointer c])

set_option maxRecDepth 100000 in
set_option maxHeartbeats 1000000 in
theorem anyOf_b (n : Int) (h0 : 0 ≤ n) (h1 : n ≤ 18446744073709551615) (w : World) : Calls Tryz.prog 48 #[.agg #[.int .u64 n, .iface 125 (.int .i64 1)]] w fun e w' => e = .returned (.iface 4 (.bool (n == 1))) ∧ Below w.heap.size w w' := by
  have cK := fun wx => kind_any (P := fun _ => True) (.num 1 n) wx _ _ (by unfold RSV; exact ⟨rfl, rfl, by omega, h0, h1⟩)
  simp only [SVal.kind] at cK
  have CK := Lib.hid (fun wx (_ : Keeps w wx) => cK wx)
  clear cK
  go_enter Tryz.func48, Tryz.ntmps48
  go_wp2_with (first
    | (go_at_call 70; (with_reducible refine (CK.out _ (keeps_of_below (by repeat' (first | with_reducible assumption | with_reducible exact Below.refl _ _ | with_reducible refine Below.setCell ?_ ?_ _ | with_reducible refine Below.alloc ?_ ?_ _ | with_reducible refine Below.drew ?_ | with_reducible refine below_drewN ?_ _ | omega | (simp; done) | (simp; omega))))).mono ?_); rintro e w1 ⟨rfl, hb1⟩; have hB1 := keeps_below (show Below w.heap.size w _ from (by repeat' (first | with_reducible assumption | with_reducible exact Below.refl _ _ | with_reducible refine Below.setCell ?_ ?_ _ | with_reducible refine Below.alloc ?_ ?_ _ | with_reducible refine Below.drew ?_ | with_reducible refine below_drewN ?_ _ | omega | (simp; done) | (simp; omega)))) hb1; obtain ⟨hc1, hf1⟩ := bcell hb1; have hz1 := hb1.size; (try simp at hz1); have e10 : w.heap.size < w1.heap.size := (by omega); (try have e11 : w.heap.size + 1 < w1.heap.size := (by omega))))
  go_wp2
  go_ret
  exact ⟨rfl, (by repeat' (first | with_reducible assumption | with_reducible exact Below.refl _ _ | with_reducible refine Below.setCell ?_ ?_ _ | with_reducible refine Below.alloc ?_ ?_ _ | with_reducible refine Below.drew ?_ | with_reducible refine below_drewN ?_ _ | omega | (simp; done) | (simp; omega)))⟩

set_option maxRecDepth 100000 in
set_option maxHeartbeats 1000000 in
theorem anyOf_dur (n : Int) (h0 : 0 ≤ n) (h1 : n ≤ 18446744073709551615) (w : World) : Calls Tryz.prog 48 #[.agg #[.int .u64 n, .iface 125 (.int .i64 2)]] w fun e w' => e = .returned (.iface 128 (.int .i64 (wrap64 n))) ∧ Below w.heap.size w w' := by
  have cK := fun wx => kind_any (P := fun _ => True) (.num 2 n) wx _ _ (by unfold RSV; exact ⟨rfl, rfl, by omega, h0, h1⟩)
  simp only [SVal.kind] at cK
  have CK := Lib.hid (fun wx (_ : Keeps w wx) => cK wx)
  clear cK
  go_enter Tryz.func48, Tryz.ntmps48
  go_wp2_with (first
    | (go_at_call 70; (with_reducible refine (CK.out _ (keeps_of_below (by repeat' (first | with_reducible assumption | with_reducible exact Below.refl _ _ | with_reducible refine Below.setCell ?_ ?_ _ | with_reducible refine Below.alloc ?_ ?_ _ | with_reducible refine Below.drew ?_ | with_reducible refine below_drewN ?_ _ | omega | (simp; done) | (simp; omega))))).mono ?_); rintro e w1 ⟨rfl, hb1⟩; have hB1 := keeps_below (show Below w.heap.size w _ from (by repeat' (first | with_reducible assumption | with_reducible exact Below.refl _ _ | with_reducible refine Below.setCell ?_ ?_ _ | with_reducible refine Below.alloc ?_ ?_ _ | with_reducible refine Below.drew ?_ | with_reducible refine below_drewN ?_ _ | omega | (simp; done) | (simp; omega)))) hb1; obtain ⟨hc1, hf1⟩ := bcell hb1; have hz1 := hb1.size; (try simp at hz1); have e10 : w.heap.size < w1.heap.size := (by omega); (try have e11 : w.heap.size + 1 < w1.heap.size := (by omega))))
  go_wp2
  go_ret
  exact ⟨rfl, (by repeat' (first | with_reducible assumption | with_reducible exact Below.refl _ _ | with_reducible refine Below.setCell ?_ ?_ _ | with_reducible refine Below.alloc ?_ ?_ _ | with_reducible refine Below.drew ?_ | with_reducible refine below_drewN ?_ _ | omega | (simp; done) | (simp; omega)))⟩

set_option maxRecDepth 100000 in
set_option maxHeartbeats 1000000 in
theorem anyOf_float (n : Int) (h0 : 0 ≤ n) (h1 : n ≤ 18446744073709551615) (w : World) : Calls Tryz.prog 48 #[.agg #[.int .u64 n, .iface 125 (.int .i64 3)]] w fun e w' => e = .returned (.iface 131 (.float .f64 n.toNat)) ∧ Below w.heap.size w w' := by
  have cK := fun wx => kind_any (P := fun _ => True) (.num 3 n) wx _ _ (by unfold RSV; exact ⟨rfl, rfl, by omega, h0, h1⟩)
  simp only [SVal.kind] at cK
  have CK := Lib.hid (fun wx (_ : Keeps w wx) => cK wx)
  clear cK
  have h1r := frombits_run
  go_enter Tryz.func48, Tryz.ntmps48
  go_wp2_with (first
    | (go_at_call 70; (with_reducible refine (CK.out _ (keeps_of_below (by repeat' (first | with_reducible assumption | with_reducible exact Below.refl _ _ | with_reducible refine Below.setCell ?_ ?_ _ | with_reducible refine Below.alloc ?_ ?_ _ | with_reducible refine Below.drew ?_ | with_reducible refine below_drewN ?_ _ | omega | (simp; done) | (simp; omega))))).mono ?_); rintro e w1 ⟨rfl, hb1⟩; have hB1 := keeps_below (show Below w.heap.size w _ from (by repeat' (first | with_reducible assumption | with_reducible exact Below.refl _ _ | with_reducible refine Below.setCell ?_ ?_ _ | with_reducible refine Below.alloc ?_ ?_ _ | with_reducible refine Below.drew ?_ | with_reducible refine below_drewN ?_ _ | omega | (simp; done) | (simp; omega)))) hb1; obtain ⟨hc1, hf1⟩ := bcell hb1; have hz1 := hb1.size; (try simp at hz1); have e10 : w.heap.size < w1.heap.size := (by omega); (try have e11 : w.heap.size + 1 < w1.heap.size := (by omega))))
  go_wp2
  go_ret
  exact ⟨rfl, (by repeat' (first | with_reducible assumption | with_reducible exact Below.refl _ _ | with_reducible refine Below.setCell ?_ ?_ _ | with_reducible refine Below.alloc ?_ ?_ _ | with_reducible refine Below.drew ?_ | with_reducible refine below_drewN ?_ _ | omega | (simp; done) | (simp; omega)))⟩

set_option maxRecDepth 100000 in
set_option maxHeartbeats 1000000 in
theorem anyOf_int (n : Int) (h0 : 0 ≤ n) (h1 : n ≤ 18446744073709551615) (w : World) : Calls Tryz.prog 48 #[.agg #[.int .u64 n, .iface 125 (.int .i64 4)]] w fun e w' => e = .returned (.iface 2 (.int .i64 (wrap64 n))) ∧ Below w.heap.size w w' := by
  have cK := fun wx => kind_any (P := fun _ => True) (.num 4 n) wx _ _ (by unfold RSV; exact ⟨rfl, rfl, by omega, h0, h1⟩)
  simp only [SVal.kind] at cK
  have CK := Lib.hid (fun wx (_ : Keeps w wx) => cK wx)
  clear cK
  go_enter Tryz.func48, Tryz.ntmps48
  go_wp2_with (first
    | (go_at_call 70; (with_reducible refine (CK.out _ (keeps_of_below (by repeat' (first | with_reducible assumption | with_reducible exact Below.refl _ _ | with_reducible refine Below.setCell ?_ ?_ _ | with_reducible refine Below.alloc ?_ ?_ _ | with_reducible refine Below.drew ?_ | with_reducible refine below_drewN ?_ _ | omega | (simp; done) | (simp; omega))))).mono ?_); rintro e w1 ⟨rfl, hb1⟩; have hB1 := keeps_below (show Below w.heap.size w _ from (by repeat' (first | with_reducible assumption | with_reducible exact Below.refl _ _ | with_reducible refine Below.setCell ?_ ?_ _ | with_reducible refine Below.alloc ?_ ?_ _ | with_reducible refine Below.drew ?_ | with_reducible refine below_drewN ?_ _ | omega | (simp; done) | (simp; omega)))) hb1; obtain ⟨hc1, hf1⟩ := bcell hb1; have hz1 := hb1.size; (try simp at hz1); have e10 : w.heap.size < w1.heap.size := (by omega); (try have e11 : w.heap.size + 1 < w1.heap.size := (by omega))))
  go_wp2
  go_ret
  exact ⟨rfl, (by repeat' (first | with_reducible assumption | with_reducible exact Below.refl _ _ | with_reducible refine Below.setCell ?_ ?_ _ | with_reducible refine Below.alloc ?_ ?_ _ | with_reducible refine Below.drew ?_ | with_reducible refine below_drewN ?_ _ | omega | (simp; done) | (simp; omega)))⟩

set_option maxRecDepth 100000 in
set_option maxHeartbeats 1000000 in
theorem anyOf_u64 (n : Int) (h0 : 0 ≤ n) (h1 : n ≤ 18446744073709551615) (w : World) : Calls Tryz.prog 48 #[.agg #[.int .u64 n, .iface 125 (.int .i64 7)]] w fun e w' => e = .returned (.iface 22 (.int .u64 n)) ∧ Below w.heap.size w w' := by
  have cK := fun wx => kind_any (P := fun _ => True) (.num 7 n) wx _ _ (by unfold RSV; exact ⟨rfl, rfl, by omega, h0, h1⟩)
  simp only [SVal.kind] at cK
  have CK := Lib.hid (fun wx (_ : Keeps w wx) => cK wx)
  clear cK
  go_enter Tryz.func48, Tryz.ntmps48
  go_wp2_with (first
    | (go_at_call 70; (with_reducible refine (CK.out _ (keeps_of_below (by repeat' (first | with_reducible assumption | with_reducible exact Below.refl _ _ | with_reducible refine Below.setCell ?_ ?_ _ | with_reducible refine Below.alloc ?_ ?_ _ | with_reducible refine Below.drew ?_ | with_reducible refine below_drewN ?_ _ | omega | (simp; done) | (simp; omega))))).mono ?_); rintro e w1 ⟨rfl, hb1⟩; have hB1 := keeps_below (show Below w.heap.size w _ from (by repeat' (first | with_reducible assumption | with_reducible exact Below.refl _ _ | with_reducible refine Below.setCell ?_ ?_ _ | with_reducible refine Below.alloc ?_ ?_ _ | with_reducible refine Below.drew ?_ | with_reducible refine below_drewN ?_ _ | omega | (simp; done) | (simp; omega)))) hb1; obtain ⟨hc1, hf1⟩ := bcell hb1; have hz1 := hb1.size; (try simp at hz1); have e10 : w.heap.size < w1.heap.size := (by omega); (try have e11 : w.heap.size + 1 < w1.heap.size := (by omega))))
  go_wp2
  go_ret
  exact ⟨rfl, (by repeat' (first | with_reducible assumption | with_reducible exact Below.refl _ _ | with_reducible refine Below.setCell ?_ ?_ _ | with_reducible refine Below.alloc ?_ ?_ _ | with_reducible refine Below.drew ?_ | with_reducible refine below_drewN ?_ _ | omega | (simp; done) | (simp; omega)))⟩

set_option maxRecDepth 100000 in
set_option maxHeartbeats 1000000 in
theorem anyOf_str (s : ByteArray) (w : World) : Calls Tryz.prog 48 #[.agg #[.int .u64 s.size, .iface 197 (.string s)]] w fun e w' => e = .returned (.iface 9 (.string s)) ∧ Below w.heap.size w w' := by
  have cK := fun wx => kind_any (P := fun _ => True) (.str s) wx _ _ (by unfold RSV; exact ⟨rfl, rfl⟩)
  simp only [SVal.kind] at cK
  have CK := Lib.hid (fun wx (_ : Keeps w wx) => cK wx)
  clear cK
  go_enter Tryz.func48, Tryz.ntmps48
  go_wp2_with (first
    | (go_at_call 70; (with_reducible refine (CK.out _ (keeps_of_below (by repeat' (first | with_reducible assumption | with_reducible exact Below.refl _ _ | with_reducible refine Below.setCell ?_ ?_ _ | with_reducible refine Below.alloc ?_ ?_ _ | with_reducible refine Below.drew ?_ | with_reducible refine below_drewN ?_ _ | omega | (simp; done) | (simp; omega))))).mono ?_); rintro e w1 ⟨rfl, hb1⟩; have hB1 := keeps_below (show Below w.heap.size w _ from (by repeat' (first | with_reducible assumption | with_reducible exact Below.refl _ _ | with_reducible refine Below.setCell ?_ ?_ _ | with_reducible refine Below.alloc ?_ ?_ _ | with_reducible refine Below.drew ?_ | with_reducible refine below_drewN ?_ _ | omega | (simp; done) | (simp; omega)))) hb1; obtain ⟨hc1, hf1⟩ := bcell hb1; have hz1 := hb1.size; (try simp at hz1); have e10 : w.heap.size < w1.heap.size := (by omega); (try have e11 : w.heap.size + 1 < w1.heap.size := (by omega))))
  go_wp2
  go_ret
  exact ⟨rfl, (by repeat' (first | with_reducible assumption | with_reducible exact Below.refl _ _ | with_reducible refine Below.setCell ?_ ?_ _ | with_reducible refine Below.alloc ?_ ?_ _ | with_reducible refine Below.drew ?_ | with_reducible refine below_drewN ?_ _ | omega | (simp; done) | (simp; omega)))⟩

set_option maxRecDepth 100000 in
set_option maxHeartbeats 1000000 in
theorem anyOf_throws (s : ByteArray) (c : Option Addr) (w : World) : Calls Tryz.prog 48 #[.agg #[.int .u64 0, .iface 142 (.agg #[.string s, .pointer c])]] w fun e w' => e = .returned (.iface 142 (.agg #[.string s, .pointer c])) ∧ Below w.heap.size w w' := by
  have cK := fun wx => kind_any (P := fun _ => True) (.throws s c) wx _ _ (by unfold RSV; exact ⟨rfl, rfl⟩)
  simp only [SVal.kind] at cK
  have CK := Lib.hid (fun wx (_ : Keeps w wx) => cK wx)
  clear cK
  go_enter Tryz.func48, Tryz.ntmps48
  go_wp2_with (first
    | (go_at_call 70; (with_reducible refine (CK.out _ (keeps_of_below (by repeat' (first | with_reducible assumption | with_reducible exact Below.refl _ _ | with_reducible refine Below.setCell ?_ ?_ _ | with_reducible refine Below.alloc ?_ ?_ _ | with_reducible refine Below.drew ?_ | with_reducible refine below_drewN ?_ _ | omega | (simp; done) | (simp; omega))))).mono ?_); rintro e w1 ⟨rfl, hb1⟩; have hB1 := keeps_below (show Below w.heap.size w _ from (by repeat' (first | with_reducible assumption | with_reducible exact Below.refl _ _ | with_reducible refine Below.setCell ?_ ?_ _ | with_reducible refine Below.alloc ?_ ?_ _ | with_reducible refine Below.drew ?_ | with_reducible refine below_drewN ?_ _ | omega | (simp; done) | (simp; omega)))) hb1; obtain ⟨hc1, hf1⟩ := bcell hb1; have hz1 := hb1.size; (try simp at hz1); have e10 : w.heap.size < w1.heap.size := (by omega); (try have e11 : w.heap.size + 1 < w1.heap.size := (by omega))))
  go_wp2
  go_ret
  exact ⟨rfl, (by repeat' (first | with_reducible assumption | with_reducible exact Below.refl _ _ | with_reducible refine Below.setCell ?_ ?_ _ | with_reducible refine Below.alloc ?_ ?_ _ | with_reducible refine Below.drew ?_ | with_reducible refine below_drewN ?_ _ | omega | (simp; done) | (simp; omega)))⟩

set_option maxRecDepth 100000 in
set_option maxHeartbeats 1000000 in
theorem anyOf_time (t : GTime) (w : World) : Calls Tryz.prog 48 #[.agg #[.int .u64 0, .iface 198 (.agg #[.int .i64 t.sec, .int .i64 t.nsec, .int .i64 t.off, .string (zone t)])]] w fun e w' => e = .returned (.iface 106 (.agg #[.int .i64 t.sec, .int .i64 t.nsec, .int .i64 t.off, .string (zone t)])) ∧ Below w.heap.size w w' := by
  have cK := fun wx => kind_any (P := fun _ => True) (.time t) wx _ _ (by unfold RSV; exact ⟨rfl, rfl⟩)
  simp only [SVal.kind] at cK
  have CK := Lib.hid (fun wx (_ : Keeps w wx) => cK wx)
  clear cK
  generalize zone t = z at CK ⊢
  go_enter Tryz.func48, Tryz.ntmps48
  go_wp2_with (first
    | (go_at_call 70; (with_reducible refine (CK.out _ (keeps_of_below (by repeat' (first | with_reducible assumption | with_reducible exact Below.refl _ _ | with_reducible refine Below.setCell ?_ ?_ _ | with_reducible refine Below.alloc ?_ ?_ _ | with_reducible refine Below.drew ?_ | with_reducible refine below_drewN ?_ _ | omega | (simp; done) | (simp; omega))))).mono ?_); rintro e w1 ⟨rfl, hb1⟩; have hB1 := keeps_below (show Below w.heap.size w _ from (by repeat' (first | with_reducible assumption | with_reducible exact Below.refl _ _ | with_reducible refine Below.setCell ?_ ?_ _ | with_reducible refine Below.alloc ?_ ?_ _ | with_reducible refine Below.drew ?_ | with_reducible refine below_drewN ?_ _ | omega | (simp; done) | (simp; omega)))) hb1; obtain ⟨hc1, hf1⟩ := bcell hb1; have hz1 := hb1.size; (try simp at hz1); have e10 : w.heap.size < w1.heap.size := (by omega); (try have e11 : w.heap.size + 1 < w1.heap.size := (by omega)))
    | (go_at_call 101; refine (time_any 0 t.sec t.nsec t.off z _).mono ?_; rintro e w2 ⟨rfl, hb2⟩; have hB2 := keeps_below (show Below w.heap.size w _ from (by repeat' (first | with_reducible assumption | with_reducible exact Below.refl _ _ | with_reducible refine Below.setCell ?_ ?_ _ | with_reducible refine Below.alloc ?_ ?_ _ | with_reducible refine Below.drew ?_ | with_reducible refine below_drewN ?_ _ | omega | (simp; done) | (simp; omega)))) hb2; obtain ⟨hc2, hf2⟩ := bcell hb2; have hz2 := hb2.size; (try simp at hz2); have e20 : w.heap.size < w2.heap.size := (by omega)))
  go_wp2
  go_ret
  exact ⟨rfl, (by repeat' (first | with_reducible assumption | with_reducible exact Below.refl _ _ | with_reducible refine Below.setCell ?_ ?_ _ | with_reducible refine Below.alloc ?_ ?_ _ | with_reducible refine Below.drew ?_ | with_reducible refine below_drewN ?_ _ | omega | (simp; done) | (simp; omega)))⟩

set_option maxRecDepth 100000 in
set_option maxHeartbeats 1000000 in
theorem anyOf_group {P : Nat → Prop} (w : World) (l : SAttrs) (A : Option Addr) (len cap : Nat) (hl : RSS P w l A len) : Calls Tryz.prog 48 #[.agg #[.int .u64 len, .iface 199 (.slice A len cap)]] w fun e w' => e = .returned (.iface 88 (.slice A len cap)) ∧ Below w.heap.size w w' := by
  have cK := fun wx (hk : Keeps w wx) => kind_any (P := P) (.group l) wx (.int .u64 len) (.iface 199 (.slice A len cap)) (by unfold RSV; exact ⟨A, len, cap, rfl, rfl, hl.turn (hk.on P) (fun _ x _ => x)⟩)
  simp only [SVal.kind] at cK
  have CK := Lib.hid cK
  clear cK hl
  go_enter Tryz.func48, Tryz.ntmps48
  go_wp2_with (first
    | (go_at_call 70; (with_reducible refine (CK.out _ (keeps_of_below (by repeat' (first | with_reducible assumption | with_reducible exact Below.refl _ _ | with_reducible refine Below.setCell ?_ ?_ _ | with_reducible refine Below.alloc ?_ ?_ _ | with_reducible refine Below.drew ?_ | with_reducible refine below_drewN ?_ _ | omega | (simp; done) | (simp; omega))))).mono ?_); rintro e w1 ⟨rfl, hb1⟩; have hB1 := keeps_below (show Below w.heap.size w _ from (by repeat' (first | with_reducible assumption | with_reducible exact Below.refl _ _ | with_reducible refine Below.setCell ?_ ?_ _ | with_reducible refine Below.alloc ?_ ?_ _ | with_reducible refine Below.drew ?_ | with_reducible refine below_drewN ?_ _ | omega | (simp; done) | (simp; omega)))) hb1; obtain ⟨hc1, hf1⟩ := bcell hb1; have hz1 := hb1.size; (try simp at hz1); have e10 : w.heap.size < w1.heap.size := (by omega); (try have e11 : w.heap.size + 1 < w1.heap.size := (by omega))))
  go_wp2
  go_ret
  exact ⟨rfl, (by repeat' (first | with_reducible assumption | with_reducible exact Below.refl _ _ | with_reducible refine Below.setCell ?_ ?_ _ | with_reducible refine Below.alloc ?_ ?_ _ | with_reducible refine Below.drew ?_ | with_reducible refine below_drewN ?_ _ | omega | (simp; done) | (simp; omega)))⟩

set_option maxRecDepth 100000 in
set_option maxHeartbeats 1000000 in
theorem anyOf_valuer {P : Nat → Prop} (w : World) (n : Int) (v : SVal) (c : Option Addr) (vx vy : Value) (hl : RSV P w v vx vy) : Calls Tryz.prog 48 #[.agg #[.int .u64 0, .iface 144 (.agg #[.int .u64 n, vx, vy, .pointer c])]] w fun e w' => e = .returned (.iface 144 (.agg #[.int .u64 n, vx, vy, .pointer c])) ∧ Below w.heap.size w w' := by
  have cK := fun wx (hk : Keeps w wx) => kind_any (P := P) (.valuer n v c) wx (.int .u64 0) (.iface 144 (.agg #[.int .u64 n, vx, vy, .pointer c])) (by unfold RSV; exact ⟨_, _, rfl, rfl, hl.turn (hk.on P) (fun _ x _ => x)⟩)
  simp only [SVal.kind] at cK
  have CK := Lib.hid cK
  clear cK hl
  go_enter Tryz.func48, Tryz.ntmps48
  go_wp2_with (first
    | (go_at_call 70; (with_reducible refine (CK.out _ (keeps_of_below (by repeat' (first | with_reducible assumption | with_reducible exact Below.refl _ _ | with_reducible refine Below.setCell ?_ ?_ _ | with_reducible refine Below.alloc ?_ ?_ _ | with_reducible refine Below.drew ?_ | with_reducible refine below_drewN ?_ _ | omega | (simp; done) | (simp; omega))))).mono ?_); rintro e w1 ⟨rfl, hb1⟩; have hB1 := keeps_below (show Below w.heap.size w _ from (by repeat' (first | with_reducible assumption | with_reducible exact Below.refl _ _ | with_reducible refine Below.setCell ?_ ?_ _ | with_reducible refine Below.alloc ?_ ?_ _ | with_reducible refine Below.drew ?_ | with_reducible refine below_drewN ?_ _ | omega | (simp; done) | (simp; omega)))) hb1; obtain ⟨hc1, hf1⟩ := bcell hb1; have hz1 := hb1.size; (try simp at hz1); have e10 : w.heap.size < w1.heap.size := (by omega); (try have e11 : w.heap.size + 1 < w1.heap.size := (by omega))))
  go_wp2
  go_ret
  exact ⟨rfl, (by repeat' (first | with_reducible assumption | with_reducible exact Below.refl _ _ | with_reducible refine Below.setCell ?_ ?_ _ | with_reducible refine Below.alloc ?_ ?_ _ | with_reducible refine Below.drew ?_ | with_reducible refine below_drewN ?_ _ | omega | (simp; done) | (simp; omega)))⟩

/-- Value.Any. -/
theorem anyAll {P : Nat → Prop} (d : SVal) (w : World) (x y : Value) (h : RSV P w d x y) : Calls Tryz.prog 48 #[.agg #[x, y]] w fun e w' => ∃ z, e = .returned z ∧ Raw P w' d z ∧ Below w.heap.size w w' := by
  cases d with
  | num k n =>
    unfold RSV at h
    obtain ⟨rfl, rfl, hk, h0, h1⟩ := h
    rcases hk with rfl | rfl | rfl | rfl | rfl
    · exact (anyOf_b n h0 h1 w).mono fun e w' h => ⟨_, h.1, ⟨⟨h0, h1⟩, .inl ⟨rfl, rfl⟩⟩, h.2⟩
    · exact (anyOf_dur n h0 h1 w).mono fun e w' h => ⟨_, h.1, ⟨⟨h0, h1⟩, .inr (.inl ⟨rfl, rfl⟩)⟩, h.2⟩
    · exact (anyOf_float n h0 h1 w).mono fun e w' h => ⟨_, h.1, ⟨⟨h0, h1⟩, .inr (.inr (.inl ⟨rfl, rfl⟩))⟩, h.2⟩
    · exact (anyOf_int n h0 h1 w).mono fun e w' h => ⟨_, h.1, ⟨⟨h0, h1⟩, .inr (.inr (.inr (.inl ⟨rfl, rfl⟩)))⟩, h.2⟩
    · exact (anyOf_u64 n h0 h1 w).mono fun e w' h => ⟨_, h.1, ⟨⟨h0, h1⟩, .inr (.inr (.inr (.inr ⟨rfl, rfl⟩)))⟩, h.2⟩
  | str s =>
    unfold RSV at h
    obtain ⟨rfl, rfl⟩ := h
    exact (anyOf_str s w).mono fun e w' h => ⟨_, h.1, rfl, h.2⟩
  | time t =>
    unfold RSV at h
    obtain ⟨rfl, rfl⟩ := h
    exact (anyOf_time t w).mono fun e w' h => ⟨_, h.1, rfl, h.2⟩
  | group l =>
    unfold RSV at h
    obtain ⟨A, len, cap, rfl, rfl, hl⟩ := h
    exact (anyOf_group (P := P) w l A len cap hl).mono fun e w' h => ⟨_, h.1, ⟨A, len, cap, rfl, RSS.turn hl ((keeps_of_below h.2).on P) (fun _ x _ => x)⟩, h.2⟩
  | any g =>
    refine (anyG_any g w x y h).mono fun e w' hh => ⟨_, hh.1, ?_, hh.2⟩
    unfold RSV at h
    have h' := h.2.turn ((keeps_of_below hh.2).on P) (fun _ x _ => x)
    cases g with
    | kind n => rfl
    | _ => exact h'
  | valuer n v c =>
    unfold RSV at h
    obtain ⟨vx, vy, rfl, rfl, hv⟩ := h
    exact (anyOf_valuer (P := P) w n v c vx vy hv).mono fun e w' h => ⟨_, h.1, ⟨vx, vy, rfl, hv.turn ((keeps_of_below h.2).on P) (fun _ x _ => x)⟩, h.2⟩
  | throws s c =>
    unfold RSV at h
    obtain ⟨rfl, rfl⟩ := h
    exact (anyOf_throws s c w).mono fun e w' h => ⟨_, h.1, rfl, h.2⟩

end Go.Proofs.YtdeomgfapffidaaGreatDoor.Va

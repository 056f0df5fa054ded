/- What Value.Any gives of a value of any kind. -/
import Derived.Test.YtihhgnbgejjijaaGreatDoorTold
import Derived.Test.YtihhgnbgejjijaaGreatDoorOfD
namespace Go.Proofs.YtihhgnbgejjijaaGreatDoor.Va
set_option linter.unusedVariables false
set_option linter.unusedSimpArgs false
open Go Go.RowKit

/-- A value as the Go value that Any gives of it. -/
def Raw (P : Nat → Prop) (w : World) : SVal → Value → Prop
  | .num k n, z => (0 ≤ n ∧ n ≤ 18446744073709551615) ∧ ((k = 1 ∧ z = .iface 4 (.bool (n == 1))) ∨ (k = 2 ∧ z = .iface 184 (.int .i64 (wrap64 n))) ∨ (k = 3 ∧ z = .iface 186 (.float .f64 n.toNat)) ∨ (k = 4 ∧ z = .iface 2 (.int .i64 (wrap64 n))) ∨ (k = 7 ∧ z = .iface 29 (.int .u64 n)))
  | .str s, z => z = .iface 9 (.string s)
  | .time t, z => z = .iface 105 (.agg #[.int .i64 t.sec, .int .i64 t.nsec, .int .i64 t.off, .string (zone t)])
  | .group l, z => ∃ A len cap, z = .iface 113 (.slice A len cap) ∧ RSS P w l A len
  | .any g, z => RRaw P w g z
  | .valuer n v c, z => ∃ vx vy, z = .iface 196 (.agg #[.int .u64 n, vx, vy, .pointer c]) ∧ RSV P w v vx vy
  | .throws s c, z => z = .iface 194 (.agg #[.string s, .pointer c])

set_option maxRecDepth 100000 in
set_option maxHeartbeats 1000000 in
theorem anyOf_b (n : Int) (h0 : 0 ≤ n) (h1 : n ≤ 18446744073709551615) (w : World) : Calls Tryz.prog 101 #[.agg #[.int .u64 n, .iface 198 (.int .i64 1)]] w fun e w' => e = .returned (.iface 4 (.bool (n == 1))) ∧ Below w.heap.size w w' := by
  have cK := fun wx => kind_any (P := fun _ => True) (.num 1 n) wx _ _ (by unfold RSV; exact ⟨rfl, rfl, by omega, h0, h1⟩)
  simp only [SVal.kind] at cK
  have CK := Lib.hid (fun wx (_ : Keeps w wx) => cK wx)
  clear cK
  go_enter Tryz.func101, Tryz.ntmps101
  go_wp2_with (first
    | (go_at_call 133; (with_reducible refine (CK.out _ (keeps_of_below (by repeat' (first | with_reducible assumption | with_reducible exact Below.refl _ _ | with_reducible refine Below.setCell ?_ ?_ _ | with_reducible refine Below.alloc ?_ ?_ _ | with_reducible refine Below.drew ?_ | with_reducible refine below_drewN ?_ _ | omega | (simp; done) | (simp; omega))))).mono ?_); rintro e w1 ⟨rfl, hb1⟩; have hB1 := keeps_below (show Below w.heap.size w _ from (by repeat' (first | with_reducible assumption | with_reducible exact Below.refl _ _ | with_reducible refine Below.setCell ?_ ?_ _ | with_reducible refine Below.alloc ?_ ?_ _ | with_reducible refine Below.drew ?_ | with_reducible refine below_drewN ?_ _ | omega | (simp; done) | (simp; omega)))) hb1; obtain ⟨hc1, hf1⟩ := bcell hb1; have hz1 := hb1.size; (try simp at hz1); have e10 : w.heap.size < w1.heap.size := (by omega); (try have e11 : w.heap.size + 1 < w1.heap.size := (by omega))))
  go_wp2
  go_ret
  exact ⟨rfl, (by repeat' (first | with_reducible assumption | with_reducible exact Below.refl _ _ | with_reducible refine Below.setCell ?_ ?_ _ | with_reducible refine Below.alloc ?_ ?_ _ | with_reducible refine Below.drew ?_ | with_reducible refine below_drewN ?_ _ | omega | (simp; done) | (simp; omega)))⟩

set_option maxRecDepth 100000 in
set_option maxHeartbeats 1000000 in
theorem anyOf_dur (n : Int) (h0 : 0 ≤ n) (h1 : n ≤ 18446744073709551615) (w : World) : Calls Tryz.prog 101 #[.agg #[.int .u64 n, .iface 198 (.int .i64 2)]] w fun e w' => e = .returned (.iface 184 (.int .i64 (wrap64 n))) ∧ Below w.heap.size w w' := by
  have cK := fun wx => kind_any (P := fun _ => True) (.num 2 n) wx _ _ (by unfold RSV; exact ⟨rfl, rfl, by omega, h0, h1⟩)
  simp only [SVal.kind] at cK
  have CK := Lib.hid (fun wx (_ : Keeps w wx) => cK wx)
  clear cK
  go_enter Tryz.func101, Tryz.ntmps101
  go_wp2_with (first
    | (go_at_call 133; (with_reducible refine (CK.out _ (keeps_of_below (by repeat' (first | with_reducible assumption | with_reducible exact Below.refl _ _ | with_reducible refine Below.setCell ?_ ?_ _ | with_reducible refine Below.alloc ?_ ?_ _ | with_reducible refine Below.drew ?_ | with_reducible refine below_drewN ?_ _ | omega | (simp; done) | (simp; omega))))).mono ?_); rintro e w1 ⟨rfl, hb1⟩; have hB1 := keeps_below (show Below w.heap.size w _ from (by repeat' (first | with_reducible assumption | with_reducible exact Below.refl _ _ | with_reducible refine Below.setCell ?_ ?_ _ | with_reducible refine Below.alloc ?_ ?_ _ | with_reducible refine Below.drew ?_ | with_reducible refine below_drewN ?_ _ | omega | (simp; done) | (simp; omega)))) hb1; obtain ⟨hc1, hf1⟩ := bcell hb1; have hz1 := hb1.size; (try simp at hz1); have e10 : w.heap.size < w1.heap.size := (by omega); (try have e11 : w.heap.size + 1 < w1.heap.size := (by omega))))
  go_wp2
  go_ret
  exact ⟨rfl, (by repeat' (first | with_reducible assumption | with_reducible exact Below.refl _ _ | with_reducible refine Below.setCell ?_ ?_ _ | with_reducible refine Below.alloc ?_ ?_ _ | with_reducible refine Below.drew ?_ | with_reducible refine below_drewN ?_ _ | omega | (simp; done) | (simp; omega)))⟩

set_option maxRecDepth 100000 in
set_option maxHeartbeats 1000000 in
theorem anyOf_float (n : Int) (h0 : 0 ≤ n) (h1 : n ≤ 18446744073709551615) (w : World) : Calls Tryz.prog 101 #[.agg #[.int .u64 n, .iface 198 (.int .i64 3)]] w fun e w' => e = .returned (.iface 186 (.float .f64 n.toNat)) ∧ Below w.heap.size w w' := by
  have cK := fun wx => kind_any (P := fun _ => True) (.num 3 n) wx _ _ (by unfold RSV; exact ⟨rfl, rfl, by omega, h0, h1⟩)
  simp only [SVal.kind] at cK
  have CK := Lib.hid (fun wx (_ : Keeps w wx) => cK wx)
  clear cK
  have h1r := frombits_run
  go_enter Tryz.func101, Tryz.ntmps101
  go_wp2_with (first
    | (go_at_call 133; (with_reducible refine (CK.out _ (keeps_of_below (by repeat' (first | with_reducible assumption | with_reducible exact Below.refl _ _ | with_reducible refine Below.setCell ?_ ?_ _ | with_reducible refine Below.alloc ?_ ?_ _ | with_reducible refine Below.drew ?_ | with_reducible refine below_drewN ?_ _ | omega | (simp; done) | (simp; omega))))).mono ?_); rintro e w1 ⟨rfl, hb1⟩; have hB1 := keeps_below (show Below w.heap.size w _ from (by repeat' (first | with_reducible assumption | with_reducible exact Below.refl _ _ | with_reducible refine Below.setCell ?_ ?_ _ | with_reducible refine Below.alloc ?_ ?_ _ | with_reducible refine Below.drew ?_ | with_reducible refine below_drewN ?_ _ | omega | (simp; done) | (simp; omega)))) hb1; obtain ⟨hc1, hf1⟩ := bcell hb1; have hz1 := hb1.size; (try simp at hz1); have e10 : w.heap.size < w1.heap.size := (by omega); (try have e11 : w.heap.size + 1 < w1.heap.size := (by omega))))
  go_wp2
  go_ret
  exact ⟨rfl, (by repeat' (first | with_reducible assumption | with_reducible exact Below.refl _ _ | with_reducible refine Below.setCell ?_ ?_ _ | with_reducible refine Below.alloc ?_ ?_ _ | with_reducible refine Below.drew ?_ | with_reducible refine below_drewN ?_ _ | omega | (simp; done) | (simp; omega)))⟩

set_option maxRecDepth 100000 in
set_option maxHeartbeats 1000000 in
theorem anyOf_int (n : Int) (h0 : 0 ≤ n) (h1 : n ≤ 18446744073709551615) (w : World) : Calls Tryz.prog 101 #[.agg #[.int .u64 n, .iface 198 (.int .i64 4)]] w fun e w' => e = .returned (.iface 2 (.int .i64 (wrap64 n))) ∧ Below w.heap.size w w' := by
  have cK := fun wx => kind_any (P := fun _ => True) (.num 4 n) wx _ _ (by unfold RSV; exact ⟨rfl, rfl, by omega, h0, h1⟩)
  simp only [SVal.kind] at cK
  have CK := Lib.hid (fun wx (_ : Keeps w wx) => cK wx)
  clear cK
  go_enter Tryz.func101, Tryz.ntmps101
  go_wp2_with (first
    | (go_at_call 133; (with_reducible refine (CK.out _ (keeps_of_below (by repeat' (first | with_reducible assumption | with_reducible exact Below.refl _ _ | with_reducible refine Below.setCell ?_ ?_ _ | with_reducible refine Below.alloc ?_ ?_ _ | with_reducible refine Below.drew ?_ | with_reducible refine below_drewN ?_ _ | omega | (simp; done) | (simp; omega))))).mono ?_); rintro e w1 ⟨rfl, hb1⟩; have hB1 := keeps_below (show Below w.heap.size w _ from (by repeat' (first | with_reducible assumption | with_reducible exact Below.refl _ _ | with_reducible refine Below.setCell ?_ ?_ _ | with_reducible refine Below.alloc ?_ ?_ _ | with_reducible refine Below.drew ?_ | with_reducible refine below_drewN ?_ _ | omega | (simp; done) | (simp; omega)))) hb1; obtain ⟨hc1, hf1⟩ := bcell hb1; have hz1 := hb1.size; (try simp at hz1); have e10 : w.heap.size < w1.heap.size := (by omega); (try have e11 : w.heap.size + 1 < w1.heap.size := (by omega))))
  go_wp2
  go_ret
  exact ⟨rfl, (by repeat' (first | with_reducible assumption | with_reducible exact Below.refl _ _ | with_reducible refine Below.setCell ?_ ?_ _ | with_reducible refine Below.alloc ?_ ?_ _ | with_reducible refine Below.drew ?_ | with_reducible refine below_drewN ?_ _ | omega | (simp; done) | (simp; omega)))⟩

set_option maxRecDepth 100000 in
set_option maxHeartbeats 1000000 in
theorem anyOf_u64 (n : Int) (h0 : 0 ≤ n) (h1 : n ≤ 18446744073709551615) (w : World) : Calls Tryz.prog 101 #[.agg #[.int .u64 n, .iface 198 (.int .i64 7)]] w fun e w' => e = .returned (.iface 29 (.int .u64 n)) ∧ Below w.heap.size w w' := by
  have cK := fun wx => kind_any (P := fun _ => True) (.num 7 n) wx _ _ (by unfold RSV; exact ⟨rfl, rfl, by omega, h0, h1⟩)
  simp only [SVal.kind] at cK
  have CK := Lib.hid (fun wx (_ : Keeps w wx) => cK wx)
  clear cK
  go_enter Tryz.func101, Tryz.ntmps101
  go_wp2_with (first
    | (go_at_call 133; (with_reducible refine (CK.out _ (keeps_of_below (by repeat' (first | with_reducible assumption | with_reducible exact Below.refl _ _ | with_reducible refine Below.setCell ?_ ?_ _ | with_reducible refine Below.alloc ?_ ?_ _ | with_reducible refine Below.drew ?_ | with_reducible refine below_drewN ?_ _ | omega | (simp; done) | (simp; omega))))).mono ?_); rintro e w1 ⟨rfl, hb1⟩; have hB1 := keeps_below (show Below w.heap.size w _ from (by repeat' (first | with_reducible assumption | with_reducible exact Below.refl _ _ | with_reducible refine Below.setCell ?_ ?_ _ | with_reducible refine Below.alloc ?_ ?_ _ | with_reducible refine Below.drew ?_ | with_reducible refine below_drewN ?_ _ | omega | (simp; done) | (simp; omega)))) hb1; obtain ⟨hc1, hf1⟩ := bcell hb1; have hz1 := hb1.size; (try simp at hz1); have e10 : w.heap.size < w1.heap.size := (by omega); (try have e11 : w.heap.size + 1 < w1.heap.size := (by omega))))
  go_wp2
  go_ret
  exact ⟨rfl, (by repeat' (first | with_reducible assumption | with_reducible exact Below.refl _ _ | with_reducible refine Below.setCell ?_ ?_ _ | with_reducible refine Below.alloc ?_ ?_ _ | with_reducible refine Below.drew ?_ | with_reducible refine below_drewN ?_ _ | omega | (simp; done) | (simp; omega)))⟩

set_option maxRecDepth 100000 in
set_option maxHeartbeats 1000000 in
theorem anyOf_str (s : ByteArray) (w : World) : Calls Tryz.prog 101 #[.agg #[.int .u64 s.size, .iface 230 (.string s)]] w fun e w' => e = .returned (.iface 9 (.string s)) ∧ Below w.heap.size w w' := by
  have cK := fun wx => kind_any (P := fun _ => True) (.str s) wx _ _ (by unfold RSV; exact ⟨rfl, rfl⟩)
  simp only [SVal.kind] at cK
  have CK := Lib.hid (fun wx (_ : Keeps w wx) => cK wx)
  clear cK
  go_enter Tryz.func101, Tryz.ntmps101
  go_wp2_with (first
    | (go_at_call 133; (with_reducible refine (CK.out _ (keeps_of_below (by repeat' (first | with_reducible assumption | with_reducible exact Below.refl _ _ | with_reducible refine Below.setCell ?_ ?_ _ | with_reducible refine Below.alloc ?_ ?_ _ | with_reducible refine Below.drew ?_ | with_reducible refine below_drewN ?_ _ | omega | (simp; done) | (simp; omega))))).mono ?_); rintro e w1 ⟨rfl, hb1⟩; have hB1 := keeps_below (show Below w.heap.size w _ from (by repeat' (first | with_reducible assumption | with_reducible exact Below.refl _ _ | with_reducible refine Below.setCell ?_ ?_ _ | with_reducible refine Below.alloc ?_ ?_ _ | with_reducible refine Below.drew ?_ | with_reducible refine below_drewN ?_ _ | omega | (simp; done) | (simp; omega)))) hb1; obtain ⟨hc1, hf1⟩ := bcell hb1; have hz1 := hb1.size; (try simp at hz1); have e10 : w.heap.size < w1.heap.size := (by omega); (try have e11 : w.heap.size + 1 < w1.heap.size := (by omega))))
  go_wp2
  go_ret
  exact ⟨rfl, (by repeat' (first | with_reducible assumption | with_reducible exact Below.refl _ _ | with_reducible refine Below.setCell ?_ ?_ _ | with_reducible refine Below.alloc ?_ ?_ _ | with_reducible refine Below.drew ?_ | with_reducible refine below_drewN ?_ _ | omega | (simp; done) | (simp; omega)))⟩

set_option maxRecDepth 100000 in
set_option maxHeartbeats 1000000 in
theorem anyOf_throws (s : ByteArray) (c : Option Addr) (w : World) : Calls Tryz.prog 101 #[.agg #[.int .u64 0, .iface 194 (.agg #[.string s, .pointer c])]] w fun e w' => e = .returned (.iface 194 (.agg #[.string s, .pointer c])) ∧ Below w.heap.size w w' := by
  have cK := fun wx => kind_any (P := fun _ => True) (.throws s c) wx _ _ (by unfold RSV; exact ⟨rfl, rfl⟩)
  simp only [SVal.kind] at cK
  have CK := Lib.hid (fun wx (_ : Keeps w wx) => cK wx)
  clear cK
  go_enter Tryz.func101, Tryz.ntmps101
  go_wp2_with (first
    | (go_at_call 133; (with_reducible refine (CK.out _ (keeps_of_below (by repeat' (first | with_reducible assumption | with_reducible exact Below.refl _ _ | with_reducible refine Below.setCell ?_ ?_ _ | with_reducible refine Below.alloc ?_ ?_ _ | with_reducible refine Below.drew ?_ | with_reducible refine below_drewN ?_ _ | omega | (simp; done) | (simp; omega))))).mono ?_); rintro e w1 ⟨rfl, hb1⟩; have hB1 := keeps_below (show Below w.heap.size w _ from (by repeat' (first | with_reducible assumption | with_reducible exact Below.refl _ _ | with_reducible refine Below.setCell ?_ ?_ _ | with_reducible refine Below.alloc ?_ ?_ _ | with_reducible refine Below.drew ?_ | with_reducible refine below_drewN ?_ _ | omega | (simp; done) | (simp; omega)))) hb1; obtain ⟨hc1, hf1⟩ := bcell hb1; have hz1 := hb1.size; (try simp at hz1); have e10 : w.heap.size < w1.heap.size := (by omega); (try have e11 : w.heap.size + 1 < w1.heap.size := (by omega))))
  go_wp2
  go_ret
  exact ⟨rfl, (by repeat' (first | with_reducible assumption | with_reducible exact Below.refl _ _ | with_reducible refine Below.setCell ?_ ?_ _ | with_reducible refine Below.alloc ?_ ?_ _ | with_reducible refine Below.drew ?_ | with_reducible refine below_drewN ?_ _ | omega | (simp; done) | (simp; omega)))⟩

set_option maxRecDepth 100000 in
set_option maxHeartbeats 1000000 in
theorem anyOf_time (t : GTime) (w : World) : Calls Tryz.prog 101 #[.agg #[.int .u64 0, .iface 243 (.agg #[.int .i64 t.sec, .int .i64 t.nsec, .int .i64 t.off, .string (zone t)])]] w fun e w' => e = .returned (.iface 105 (.agg #[.int .i64 t.sec, .int .i64 t.nsec, .int .i64 t.off, .string (zone t)])) ∧ Below w.heap.size w w' := by
  have cK := fun wx => kind_any (P := fun _ => True) (.time t) wx _ _ (by unfold RSV; exact ⟨rfl, rfl⟩)
  simp only [SVal.kind] at cK
  have CK := Lib.hid (fun wx (_ : Keeps w wx) => cK wx)
  clear cK
  generalize zone t = z at CK ⊢
  go_enter Tryz.func101, Tryz.ntmps101
  go_wp2_with (first
    | (go_at_call 133; (with_reducible refine (CK.out _ (keeps_of_below (by repeat' (first | with_reducible assumption | with_reducible exact Below.refl _ _ | with_reducible refine Below.setCell ?_ ?_ _ | with_reducible refine Below.alloc ?_ ?_ _ | with_reducible refine Below.drew ?_ | with_reducible refine below_drewN ?_ _ | omega | (simp; done) | (simp; omega))))).mono ?_); rintro e w1 ⟨rfl, hb1⟩; have hB1 := keeps_below (show Below w.heap.size w _ from (by repeat' (first | with_reducible assumption | with_reducible exact Below.refl _ _ | with_reducible refine Below.setCell ?_ ?_ _ | with_reducible refine Below.alloc ?_ ?_ _ | with_reducible refine Below.drew ?_ | with_reducible refine below_drewN ?_ _ | omega | (simp; done) | (simp; omega)))) hb1; obtain ⟨hc1, hf1⟩ := bcell hb1; have hz1 := hb1.size; (try simp at hz1); have e10 : w.heap.size < w1.heap.size := (by omega); (try have e11 : w.heap.size + 1 < w1.heap.size := (by omega)))
    | (go_at_call 136; refine (time_any 0 t.sec t.nsec t.off z _).mono ?_; rintro e w2 ⟨rfl, hb2⟩; have hB2 := keeps_below (show Below w.heap.size w _ from (by repeat' (first | with_reducible assumption | with_reducible exact Below.refl _ _ | with_reducible refine Below.setCell ?_ ?_ _ | with_reducible refine Below.alloc ?_ ?_ _ | with_reducible refine Below.drew ?_ | with_reducible refine below_drewN ?_ _ | omega | (simp; done) | (simp; omega)))) hb2; obtain ⟨hc2, hf2⟩ := bcell hb2; have hz2 := hb2.size; (try simp at hz2); have e20 : w.heap.size < w2.heap.size := (by omega)))
  go_wp2
  go_ret
  exact ⟨rfl, (by repeat' (first | with_reducible assumption | with_reducible exact Below.refl _ _ | with_reducible refine Below.setCell ?_ ?_ _ | with_reducible refine Below.alloc ?_ ?_ _ | with_reducible refine Below.drew ?_ | with_reducible refine below_drewN ?_ _ | omega | (simp; done) | (simp; omega)))⟩

set_option maxRecDepth 100000 in
set_option maxHeartbeats 1000000 in
theorem anyOf_group {P : Nat → Prop} (w : World) (l : SAttrs) (A : Option Addr) (len cap : Nat) (hl : RSS P w l A len) : Calls Tryz.prog 101 #[.agg #[.int .u64 len, .iface 245 (.slice A len cap)]] w fun e w' => e = .returned (.iface 113 (.slice A len cap)) ∧ Below w.heap.size w w' := by
  have cK := fun wx (hk : Keeps w wx) => kind_any (P := P) (.group l) wx (.int .u64 len) (.iface 245 (.slice A len cap)) (by unfold RSV; exact ⟨A, len, cap, rfl, rfl, hl.turn (hk.on P) (fun _ x _ => x)⟩)
  simp only [SVal.kind] at cK
  have CK := Lib.hid cK
  clear cK hl
  go_enter Tryz.func101, Tryz.ntmps101
  go_wp2_with (first
    | (go_at_call 133; (with_reducible refine (CK.out _ (keeps_of_below (by repeat' (first | with_reducible assumption | with_reducible exact Below.refl _ _ | with_reducible refine Below.setCell ?_ ?_ _ | with_reducible refine Below.alloc ?_ ?_ _ | with_reducible refine Below.drew ?_ | with_reducible refine below_drewN ?_ _ | omega | (simp; done) | (simp; omega))))).mono ?_); rintro e w1 ⟨rfl, hb1⟩; have hB1 := keeps_below (show Below w.heap.size w _ from (by repeat' (first | with_reducible assumption | with_reducible exact Below.refl _ _ | with_reducible refine Below.setCell ?_ ?_ _ | with_reducible refine Below.alloc ?_ ?_ _ | with_reducible refine Below.drew ?_ | with_reducible refine below_drewN ?_ _ | omega | (simp; done) | (simp; omega)))) hb1; obtain ⟨hc1, hf1⟩ := bcell hb1; have hz1 := hb1.size; (try simp at hz1); have e10 : w.heap.size < w1.heap.size := (by omega); (try have e11 : w.heap.size + 1 < w1.heap.size := (by omega))))
  go_wp2
  go_ret
  exact ⟨rfl, (by repeat' (first | with_reducible assumption | with_reducible exact Below.refl _ _ | with_reducible refine Below.setCell ?_ ?_ _ | with_reducible refine Below.alloc ?_ ?_ _ | with_reducible refine Below.drew ?_ | with_reducible refine below_drewN ?_ _ | omega | (simp; done) | (simp; omega)))⟩

set_option maxRecDepth 100000 in
set_option maxHeartbeats 1000000 in
theorem anyOf_valuer {P : Nat → Prop} (w : World) (n : Int) (v : SVal) (c : Option Addr) (vx vy : Value) (hl : RSV P w v vx vy) : Calls Tryz.prog 101 #[.agg #[.int .u64 0, .iface 196 (.agg #[.int .u64 n, vx, vy, .pointer c])]] w fun e w' => e = .returned (.iface 196 (.agg #[.int .u64 n, vx, vy, .pointer c])) ∧ Below w.heap.size w w' := by
  have cK := fun wx (hk : Keeps w wx) => kind_any (P := P) (.valuer n v c) wx (.int .u64 0) (.iface 196 (.agg #[.int .u64 n, vx, vy, .pointer c])) (by unfold RSV; exact ⟨_, _, rfl, rfl, hl.turn (hk.on P) (fun _ x _ => x)⟩)
  simp only [SVal.kind] at cK
  have CK := Lib.hid cK
  clear cK hl
  go_enter Tryz.func101, Tryz.ntmps101
  go_wp2_with (first
    | (go_at_call 133; (with_reducible refine (CK.out _ (keeps_of_below (by repeat' (first | with_reducible assumption | with_reducible exact Below.refl _ _ | with_reducible refine Below.setCell ?_ ?_ _ | with_reducible refine Below.alloc ?_ ?_ _ | with_reducible refine Below.drew ?_ | with_reducible refine below_drewN ?_ _ | omega | (simp; done) | (simp; omega))))).mono ?_); rintro e w1 ⟨rfl, hb1⟩; have hB1 := keeps_below (show Below w.heap.size w _ from (by repeat' (first | with_reducible assumption | with_reducible exact Below.refl _ _ | with_reducible refine Below.setCell ?_ ?_ _ | with_reducible refine Below.alloc ?_ ?_ _ | with_reducible refine Below.drew ?_ | with_reducible refine below_drewN ?_ _ | omega | (simp; done) | (simp; omega)))) hb1; obtain ⟨hc1, hf1⟩ := bcell hb1; have hz1 := hb1.size; (try simp at hz1); have e10 : w.heap.size < w1.heap.size := (by omega); (try have e11 : w.heap.size + 1 < w1.heap.size := (by omega))))
  go_wp2
  go_ret
  exact ⟨rfl, (by repeat' (first | with_reducible assumption | with_reducible exact Below.refl _ _ | with_reducible refine Below.setCell ?_ ?_ _ | with_reducible refine Below.alloc ?_ ?_ _ | with_reducible refine Below.drew ?_ | with_reducible refine below_drewN ?_ _ | omega | (simp; done) | (simp; omega)))⟩

/-- Value.Any. -/
theorem anyAll {P : Nat → Prop} (d : SVal) (w : World) (x y : Value) (h : RSV P w d x y) : Calls Tryz.prog 101 #[.agg #[x, y]] w fun e w' => ∃ z, e = .returned z ∧ Raw P w' d z ∧ Below w.heap.size w w' := by
  cases d with
  | num k n =>
    unfold RSV at h
    obtain ⟨rfl, rfl, hk, h0, h1⟩ := h
    rcases hk with rfl | rfl | rfl | rfl | rfl
    · exact (anyOf_b n h0 h1 w).mono fun e w' h => ⟨_, h.1, ⟨⟨h0, h1⟩, .inl ⟨rfl, rfl⟩⟩, h.2⟩
    · exact (anyOf_dur n h0 h1 w).mono fun e w' h => ⟨_, h.1, ⟨⟨h0, h1⟩, .inr (.inl ⟨rfl, rfl⟩)⟩, h.2⟩
    · exact (anyOf_float n h0 h1 w).mono fun e w' h => ⟨_, h.1, ⟨⟨h0, h1⟩, .inr (.inr (.inl ⟨rfl, rfl⟩))⟩, h.2⟩
    · exact (anyOf_int n h0 h1 w).mono fun e w' h => ⟨_, h.1, ⟨⟨h0, h1⟩, .inr (.inr (.inr (.inl ⟨rfl, rfl⟩)))⟩, h.2⟩
    · exact (anyOf_u64 n h0 h1 w).mono fun e w' h => ⟨_, h.1, ⟨⟨h0, h1⟩, .inr (.inr (.inr (.inr ⟨rfl, rfl⟩)))⟩, h.2⟩
  | str s =>
    unfold RSV at h
    obtain ⟨rfl, rfl⟩ := h
    exact (anyOf_str s w).mono fun e w' h => ⟨_, h.1, rfl, h.2⟩
  | time t =>
    unfold RSV at h
    obtain ⟨rfl, rfl⟩ := h
    exact (anyOf_time t w).mono fun e w' h => ⟨_, h.1, rfl, h.2⟩
  | group l =>
    unfold RSV at h
    obtain ⟨A, len, cap, rfl, rfl, hl⟩ := h
    exact (anyOf_group (P := P) w l A len cap hl).mono fun e w' h => ⟨_, h.1, ⟨A, len, cap, rfl, RSS.turn hl ((keeps_of_below h.2).on P) (fun _ x _ => x)⟩, h.2⟩
  | any g =>
    refine (anyG_any g w x y h).mono fun e w' hh => ⟨_, hh.1, ?_, hh.2⟩
    unfold RSV at h
    have h' := h.2.turn ((keeps_of_below hh.2).on P) (fun _ x _ => x)
    cases g with
    | kind n => rfl
    | _ => exact h'
  | valuer n v c =>
    unfold RSV at h
    obtain ⟨vx, vy, rfl, rfl, hv⟩ := h
    exact (anyOf_valuer (P := P) w n v c vx vy hv).mono fun e w' h => ⟨_, h.1, ⟨vx, vy, rfl, hv.turn ((keeps_of_below h.2).on P) (fun _ x _ => x)⟩, h.2⟩
  | throws s c =>
    unfold RSV at h
    obtain ⟨rfl, rfl⟩ := h
    exact (anyOf_throws s c w).mono fun e w' h => ⟨_, h.1, rfl, h.2⟩

end Go.Proofs.YtihhgnbgejjijaaGreatDoor.Va

/- What AnyValue makes of what Value.Any gives. -/
namespace Go.Proofs.YtihhgnbgejjijaaGreatDoor.Va
set_option linter.unusedVariables false
set_option linter.unusedSimpArgs false
open Go Go.RowKit

set_option maxRecDepth 100000 in
set_option maxHeartbeats 1000000 in
theorem mk_b1  (w : World) : Calls Tryz.prog 100 #[.iface 4 (.bool true)] w fun e w' => e = .returned (.agg #[.int .u64 1, .iface 198 (.int .i64 1)]) ∧ Below w.heap.size w w' := by
  go_enter Tryz.func100, Tryz.ntmps100
  go_wp2_with (go_at_call 123; refine (c_bool_t _).mono ?_; rintro e w2 ⟨rfl, hb2⟩; have hB2 := keeps_below (show Below w.heap.size w _ from (by repeat' (first | with_reducible assumption | with_reducible exact Below.refl _ _ | with_reducible refine Below.setCell ?_ ?_ _ | with_reducible refine Below.alloc ?_ ?_ _ | with_reducible refine Below.drew ?_ | with_reducible refine below_drewN ?_ _ | omega | (simp; done) | (simp; omega)))) hb2; obtain ⟨hc2, hf2⟩ := bcell hb2; have hs2 := hb2.size; (try simp at hs2); have hl2 : w.heap.size < w2.heap.size := (by omega))
  exact bodyPost_ret (v := .agg #[.int .u64 1, .iface 198 (.int .i64 1)]) (by simp [results, Tryz.results100, go_sem, hc2, hf2, hl2]) rfl ⟨rfl, (by repeat' (first | with_reducible assumption | with_reducible exact Below.refl _ _ | with_reducible refine Below.setCell ?_ ?_ _ | with_reducible refine Below.alloc ?_ ?_ _ | with_reducible refine Below.drew ?_ | with_reducible refine below_drewN ?_ _ | omega | (simp; done) | (simp; omega)))⟩

set_option maxRecDepth 100000 in
set_option maxHeartbeats 1000000 in
theorem mk_b0  (w : World) : Calls Tryz.prog 100 #[.iface 4 (.bool false)] w fun e w' => e = .returned (.agg #[.int .u64 0, .iface 198 (.int .i64 1)]) ∧ Below w.heap.size w w' := by
  go_enter Tryz.func100, Tryz.ntmps100
  go_wp2_with (go_at_call 123; refine (c_bool_f _).mono ?_; rintro e w2 ⟨rfl, hb2⟩; have hB2 := keeps_below (show Below w.heap.size w _ from (by repeat' (first | with_reducible assumption | with_reducible exact Below.refl _ _ | with_reducible refine Below.setCell ?_ ?_ _ | with_reducible refine Below.alloc ?_ ?_ _ | with_reducible refine Below.drew ?_ | with_reducible refine below_drewN ?_ _ | omega | (simp; done) | (simp; omega)))) hb2; obtain ⟨hc2, hf2⟩ := bcell hb2; have hs2 := hb2.size; (try simp at hs2); have hl2 : w.heap.size < w2.heap.size := (by omega))
  exact bodyPost_ret (v := .agg #[.int .u64 0, .iface 198 (.int .i64 1)]) (by simp [results, Tryz.results100, go_sem, hc2, hf2, hl2]) rfl ⟨rfl, (by repeat' (first | with_reducible assumption | with_reducible exact Below.refl _ _ | with_reducible refine Below.setCell ?_ ?_ _ | with_reducible refine Below.alloc ?_ ?_ _ | with_reducible refine Below.drew ?_ | with_reducible refine below_drewN ?_ _ | omega | (simp; done) | (simp; omega)))⟩

set_option maxRecDepth 100000 in
set_option maxHeartbeats 1000000 in
theorem mk_dur (n : Int) (h0 : 0 ≤ n) (h1 : n ≤ 18446744073709551615) (w : World) : Calls Tryz.prog 100 #[.iface 184 (.int .i64 (wrap64 n))] w fun e w' => e = .returned (.agg #[.int .u64 n, .iface 198 (.int .i64 2)]) ∧ Below w.heap.size w w' := by
  go_enter Tryz.func100, Tryz.ntmps100
  go_wp2_with (go_at_call 124; refine (c_dur _ _).mono ?_; rintro e w2 ⟨rfl, hb2⟩; rw [wrap_back h0 h1]; have hB2 := keeps_below (show Below w.heap.size w _ from (by repeat' (first | with_reducible assumption | with_reducible exact Below.refl _ _ | with_reducible refine Below.setCell ?_ ?_ _ | with_reducible refine Below.alloc ?_ ?_ _ | with_reducible refine Below.drew ?_ | with_reducible refine below_drewN ?_ _ | omega | (simp; done) | (simp; omega)))) hb2; obtain ⟨hc2, hf2⟩ := bcell hb2; have hs2 := hb2.size; (try simp at hs2); have hl2 : w.heap.size < w2.heap.size := (by omega))
  exact bodyPost_ret (v := .agg #[.int .u64 n, .iface 198 (.int .i64 2)]) (by simp [results, Tryz.results100, go_sem, hc2, hf2, hl2]) rfl ⟨rfl, (by repeat' (first | with_reducible assumption | with_reducible exact Below.refl _ _ | with_reducible refine Below.setCell ?_ ?_ _ | with_reducible refine Below.alloc ?_ ?_ _ | with_reducible refine Below.drew ?_ | with_reducible refine below_drewN ?_ _ | omega | (simp; done) | (simp; omega)))⟩

set_option maxRecDepth 100000 in
set_option maxHeartbeats 1000000 in
theorem mk_float (n : Int) (h0 : 0 ≤ n) (h1 : n ≤ 18446744073709551615) (w : World) : Calls Tryz.prog 100 #[.iface 186 (.float .f64 n.toNat)] w fun e w' => e = .returned (.agg #[.int .u64 n, .iface 198 (.int .i64 3)]) ∧ Below w.heap.size w w' := by
  go_enter Tryz.func100, Tryz.ntmps100
  go_wp2_with (go_at_call 125; refine (c_float _ _).mono ?_; rintro e w2 ⟨rfl, hb2⟩; rw [Int.toNat_of_nonneg h0]; have hB2 := keeps_below (show Below w.heap.size w _ from (by repeat' (first | with_reducible assumption | with_reducible exact Below.refl _ _ | with_reducible refine Below.setCell ?_ ?_ _ | with_reducible refine Below.alloc ?_ ?_ _ | with_reducible refine Below.drew ?_ | with_reducible refine below_drewN ?_ _ | omega | (simp; done) | (simp; omega)))) hb2; obtain ⟨hc2, hf2⟩ := bcell hb2; have hs2 := hb2.size; (try simp at hs2); have hl2 : w.heap.size < w2.heap.size := (by omega))
  exact bodyPost_ret (v := .agg #[.int .u64 n, .iface 198 (.int .i64 3)]) (by simp [results, Tryz.results100, go_sem, hc2, hf2, hl2]) rfl ⟨rfl, (by repeat' (first | with_reducible assumption | with_reducible exact Below.refl _ _ | with_reducible refine Below.setCell ?_ ?_ _ | with_reducible refine Below.alloc ?_ ?_ _ | with_reducible refine Below.drew ?_ | with_reducible refine below_drewN ?_ _ | omega | (simp; done) | (simp; omega)))⟩

set_option maxRecDepth 100000 in
set_option maxHeartbeats 1000000 in
theorem mk_int (n : Int) (h0 : 0 ≤ n) (h1 : n ≤ 18446744073709551615) (w : World) : Calls Tryz.prog 100 #[.iface 2 (.int .i64 (wrap64 n))] w fun e w' => e = .returned (.agg #[.int .u64 n, .iface 198 (.int .i64 4)]) ∧ Below w.heap.size w w' := by
  go_enter Tryz.func100, Tryz.ntmps100
  go_wp2_with (go_at_call 127; refine (c_int _ _).mono ?_; rintro e w2 ⟨rfl, hb2⟩; rw [wrap_back h0 h1]; have hB2 := keeps_below (show Below w.heap.size w _ from (by repeat' (first | with_reducible assumption | with_reducible exact Below.refl _ _ | with_reducible refine Below.setCell ?_ ?_ _ | with_reducible refine Below.alloc ?_ ?_ _ | with_reducible refine Below.drew ?_ | with_reducible refine below_drewN ?_ _ | omega | (simp; done) | (simp; omega)))) hb2; obtain ⟨hc2, hf2⟩ := bcell hb2; have hs2 := hb2.size; (try simp at hs2); have hl2 : w.heap.size < w2.heap.size := (by omega))
  exact bodyPost_ret (v := .agg #[.int .u64 n, .iface 198 (.int .i64 4)]) (by simp [results, Tryz.results100, go_sem, hc2, hf2, hl2]) rfl ⟨rfl, (by repeat' (first | with_reducible assumption | with_reducible exact Below.refl _ _ | with_reducible refine Below.setCell ?_ ?_ _ | with_reducible refine Below.alloc ?_ ?_ _ | with_reducible refine Below.drew ?_ | with_reducible refine below_drewN ?_ _ | omega | (simp; done) | (simp; omega)))⟩

set_option maxRecDepth 100000 in
set_option maxHeartbeats 1000000 in
theorem mk_u64 (n : Int) (h0 : 0 ≤ n) (h1 : n ≤ 18446744073709551615) (w : World) : Calls Tryz.prog 100 #[.iface 29 (.int .u64 n)] w fun e w' => e = .returned (.agg #[.int .u64 n, .iface 198 (.int .i64 7)]) ∧ Below w.heap.size w w' := by
  go_enter Tryz.func100, Tryz.ntmps100
  go_wp2_with (go_at_call 130; refine (c_uint n _).mono ?_; rintro e w2 ⟨rfl, hb2⟩; have hB2 := keeps_below (show Below w.heap.size w _ from (by repeat' (first | with_reducible assumption | with_reducible exact Below.refl _ _ | with_reducible refine Below.setCell ?_ ?_ _ | with_reducible refine Below.alloc ?_ ?_ _ | with_reducible refine Below.drew ?_ | with_reducible refine below_drewN ?_ _ | omega | (simp; done) | (simp; omega)))) hb2; obtain ⟨hc2, hf2⟩ := bcell hb2; have hs2 := hb2.size; (try simp at hs2); have hl2 : w.heap.size < w2.heap.size := (by omega))
  exact bodyPost_ret (v := .agg #[.int .u64 n, .iface 198 (.int .i64 7)]) (by simp [results, Tryz.results100, go_sem, hc2, hf2, hl2]) rfl ⟨rfl, (by repeat' (first | with_reducible assumption | with_reducible exact Below.refl _ _ | with_reducible refine Below.setCell ?_ ?_ _ | with_reducible refine Below.alloc ?_ ?_ _ | with_reducible refine Below.drew ?_ | with_reducible refine below_drewN ?_ _ | omega | (simp; done) | (simp; omega)))⟩

set_option maxRecDepth 100000 in
set_option maxHeartbeats 1000000 in
theorem mk_str (s : ByteArray) (hs : s.size ≤ 140737488355328) (w : World) : Calls Tryz.prog 100 #[.iface 9 (.string s)] w fun e w' => e = .returned (.agg #[.int .u64 s.size, .iface 230 (.string s)]) ∧ Below w.heap.size w w' := by
  go_enter Tryz.func100, Tryz.ntmps100
  go_wp2_with (go_at_call 128; refine (c_str s hs _).mono ?_; rintro e w2 ⟨rfl, hb2⟩; have hB2 := keeps_below (show Below w.heap.size w _ from (by repeat' (first | with_reducible assumption | with_reducible exact Below.refl _ _ | with_reducible refine Below.setCell ?_ ?_ _ | with_reducible refine Below.alloc ?_ ?_ _ | with_reducible refine Below.drew ?_ | with_reducible refine below_drewN ?_ _ | omega | (simp; done) | (simp; omega)))) hb2; obtain ⟨hc2, hf2⟩ := bcell hb2; have hs2 := hb2.size; (try simp at hs2); have hl2 : w.heap.size < w2.heap.size := (by omega))
  exact bodyPost_ret (v := .agg #[.int .u64 s.size, .iface 230 (.string s)]) (by simp [results, Tryz.results100, go_sem, hc2, hf2, hl2]) rfl ⟨rfl, (by repeat' (first | with_reducible assumption | with_reducible exact Below.refl _ _ | with_reducible refine Below.setCell ?_ ?_ _ | with_reducible refine Below.alloc ?_ ?_ _ | with_reducible refine Below.drew ?_ | with_reducible refine below_drewN ?_ _ | omega | (simp; done) | (simp; omega)))⟩

set_option maxRecDepth 100000 in
set_option maxHeartbeats 1000000 in
theorem mk_time (a b c : Int) (z : ByteArray) (w : World) : Calls Tryz.prog 100 #[.iface 105 (.agg #[.int .i64 a, .int .i64 b, .int .i64 c, .string z])] w fun e w' => e = .returned (.agg #[.int .u64 0, .iface 243 (.agg #[.int .i64 a, .int .i64 b, .int .i64 c, .string z])]) ∧ Below w.heap.size w w' := by
  go_enter Tryz.func100, Tryz.ntmps100
  go_wp2_with (go_at_call 129; refine (c_time a b c z _).mono ?_; rintro e w2 ⟨rfl, hb2⟩; have hB2 := keeps_below (show Below w.heap.size w _ from (by repeat' (first | with_reducible assumption | with_reducible exact Below.refl _ _ | with_reducible refine Below.setCell ?_ ?_ _ | with_reducible refine Below.alloc ?_ ?_ _ | with_reducible refine Below.drew ?_ | with_reducible refine below_drewN ?_ _ | omega | (simp; done) | (simp; omega)))) hb2; obtain ⟨hc2, hf2⟩ := bcell hb2; have hs2 := hb2.size; (try simp at hs2); have hl2 : w.heap.size < w2.heap.size := (by omega))
  exact bodyPost_ret (v := .agg #[.int .u64 0, .iface 243 (.agg #[.int .i64 a, .int .i64 b, .int .i64 c, .string z])]) (by simp [results, Tryz.results100, go_sem, hc2, hf2, hl2, show w.heap.size < w.heap.size + 1 + 1 by omega]) rfl ⟨rfl, (by repeat' (first | with_reducible assumption | with_reducible exact Below.refl _ _ | with_reducible refine Below.setCell ?_ ?_ _ | with_reducible refine Below.alloc ?_ ?_ _ | with_reducible refine Below.drew ?_ | with_reducible refine below_drewN ?_ _ | omega | (simp; done) | (simp; omega)))⟩

set_option maxRecDepth 100000 in
set_option maxHeartbeats 1000000 in
/-- A Value, as it is. -/
theorem mk_value (i : Int) (y : Value) (hy : y = .nilIface ∨ ∃ t u, y = .iface t u) (w : World) : Calls Tryz.prog 100 #[.iface 109 (.agg #[.int .u64 i, y])] w fun e w' => e = .returned (.agg #[.int .u64 i, y]) ∧ Below w.heap.size w w' := by
  rcases hy with rfl | ⟨t, u, rfl⟩
  · go_enter Tryz.func100, Tryz.ntmps100
    go_wp2
    exact bodyPost_ret (v := .agg #[.int .u64 i, .nilIface]) (by simp [results, Tryz.results100, go_sem]) rfl ⟨rfl, (by repeat' (first | with_reducible assumption | with_reducible exact Below.refl _ _ | with_reducible refine Below.setCell ?_ ?_ _ | with_reducible refine Below.alloc ?_ ?_ _ | with_reducible refine Below.drew ?_ | with_reducible refine below_drewN ?_ _ | omega | (simp; done) | (simp; omega)))⟩
  · go_enter Tryz.func100, Tryz.ntmps100
    go_wp2
    exact bodyPost_ret (v := .agg #[.int .u64 i, .iface t u]) (by simp [results, Tryz.results100, go_sem]) rfl ⟨rfl, (by repeat' (first | with_reducible assumption | with_reducible exact Below.refl _ _ | with_reducible refine Below.setCell ?_ ?_ _ | with_reducible refine Below.alloc ?_ ?_ _ | with_reducible refine Below.drew ?_ | with_reducible refine below_drewN ?_ _ | omega | (simp; done) | (simp; omega)))⟩

set_option maxRecDepth 100000 in
set_option maxHeartbeats 1000000 in
/-- A list of attributes. -/
theorem mk_group {P : Nat → Prop} (l : SAttrs) (w : World) (A : Option Addr) (len cap : Nat) (hl : RSS P w l A len) (hlen : len ≤ 300000) (hP : ∀ b, w.heap.size ≤ b → P b) :
    Calls Tryz.prog 100 #[.iface 113 (.slice A len cap)] w (GroupPost P l.full w) := by
  unfold GroupPost
  have Hl := Lib.hid (hl.turn (Q := fun b => (P b ∧ b < w.heap.size) ∨ w.heap.size + 1 ≤ b) (KeepsOn.refl _ _) (fun b h h' => .inl ⟨h, h'⟩))
  have HP := Lib.hid hP
  clear hl hP
  go_enter Tryz.func100, Tryz.ntmps100
  go_wp2_with (go_at_call 131; refine (groupValue_any (P := fun b => (P b ∧ b < w.heap.size) ∨ w.heap.size + 1 ≤ b) l _ A len cap (Hl.out.turn ((keeps_of_below (by repeat' (first | with_reducible assumption | with_reducible exact Below.refl _ _ | with_reducible refine Below.setCell ?_ ?_ _ | with_reducible refine Below.alloc ?_ ?_ _ | with_reducible refine Below.drew ?_ | with_reducible refine below_drewN ?_ _ | omega | (simp; done) | (simp; omega)))).on _) (fun _ x _ => x)) hlen (fun b hb => .inr (by simp at hb; omega))).mono ?_; rintro e w3 ⟨x3, y3, rfl, hr3, hb3⟩; have HR3 := Lib.hid hr3; have hsh := rsv_group hr3; clear hr3; have hB3 := keeps_below (show Below w.heap.size w _ from (by repeat' (first | with_reducible assumption | with_reducible exact Below.refl _ _ | with_reducible refine Below.setCell ?_ ?_ _ | with_reducible refine Below.alloc ?_ ?_ _ | with_reducible refine Below.drew ?_ | with_reducible refine below_drewN ?_ _ | omega | (simp; done) | (simp; omega)))) hb3; obtain ⟨hc3, hf3⟩ := bcell hb3; have hs3 := hb3.size; (try simp at hs3); have hl3 : w.heap.size < w3.heap.size := (by omega); obtain ⟨A3, len3, cap3, rfl, rfl⟩ := hsh)
  exact bodyPost_ret (v := .agg #[.int .u64 len3, .iface 245 (.slice A3 len3 cap3)]) (by simp [results, Tryz.results100, go_sem, hc3, hf3, hl3]) rfl ⟨_, _, rfl, HR3.out.turn (by repeat' (first | with_reducible assumption | with_reducible exact KeepsOn.refl _ _ | with_reducible refine KeepsOn.setCell ?_ ?_ _ | with_reducible refine KeepsOn.alloc ?_ _ | with_reducible refine KeepsOn.drew ?_ | (intro b hb; simp at hb ⊢; omega) | (rintro b ⟨_, hb⟩; simp at hb ⊢; omega) | (rintro b ⟨_, hb⟩; omega))) (fun b hb _ => by rcases hb with h | h; exact h.1; exact HP.out b (by omega)), (by repeat' (first | with_reducible assumption | with_reducible exact Below.refl _ _ | with_reducible refine Below.setCell ?_ ?_ _ | with_reducible refine Below.alloc ?_ ?_ _ | with_reducible refine Below.drew ?_ | with_reducible refine below_drewN ?_ _ | omega | (simp; done) | (simp; omega)))⟩

/-- What AnyValue makes of what Any gives. -/
def again : SVal → SVal
  | .group l => .group l.full
  | d => d

/-- The values that AnyValue takes back. -/
def backable : SVal → Prop
  | .num k n => k = 1 → n ≤ 1
  | .str s => s.size ≤ 140737488355328
  | .group l => l.len ≤ 300000
  | _ => True

/-- slog.AnyValue, of what Any gives. -/
theorem anyValue_raw {P : Nat → Prop} (d : SVal) (w : World) (z : Value) (h : Raw P w d z) (hb : backable d) (hP : ∀ b, w.heap.size ≤ b → P b) :
    Calls Tryz.prog 100 #[z] w fun e w' => ∃ x y, e = .returned (.agg #[x, y]) ∧ RSV P w' (again d) x y ∧ Below w.heap.size w w' := by
  cases d with
  | num k n =>
    obtain ⟨⟨h0, h1⟩, h⟩ := h
    rcases h with ⟨rfl, rfl⟩ | ⟨rfl, rfl⟩ | ⟨rfl, rfl⟩ | ⟨rfl, rfl⟩ | ⟨rfl, rfl⟩
    · have hn : n ≤ 1 := hb rfl
      have : n = 1 ∨ n = 0 := by omega
      rcases this with rfl | rfl
      · exact (mk_b1 w).mono fun e w' h => ⟨_, _, h.1, by unfold again RSV; exact ⟨rfl, rfl, by omega, h0, h1⟩, h.2⟩
      · exact (mk_b0 w).mono fun e w' h => ⟨_, _, h.1, by unfold again RSV; exact ⟨rfl, rfl, by omega, h0, h1⟩, h.2⟩
    · exact (mk_dur n h0 h1 w).mono fun e w' h => ⟨_, _, h.1, by unfold again RSV; exact ⟨rfl, rfl, by omega, h0, h1⟩, h.2⟩
    · exact (mk_float n h0 h1 w).mono fun e w' h => ⟨_, _, h.1, by unfold again RSV; exact ⟨rfl, rfl, by omega, h0, h1⟩, h.2⟩
    · exact (mk_int n h0 h1 w).mono fun e w' h => ⟨_, _, h.1, by unfold again RSV; exact ⟨rfl, rfl, by omega, h0, h1⟩, h.2⟩
    · exact (mk_u64 n h0 h1 w).mono fun e w' h => ⟨_, _, h.1, by unfold again RSV; exact ⟨rfl, rfl, by omega, h0, h1⟩, h.2⟩
  | str s => obtain rfl := h; exact (mk_str s hb w).mono fun e w' h => ⟨_, _, h.1, by unfold again RSV; exact ⟨rfl, rfl⟩, h.2⟩
  | time t => obtain rfl := h; exact (mk_time t.sec t.nsec t.off (zone t) w).mono fun e w' h => ⟨_, _, h.1, by unfold again RSV; exact ⟨rfl, rfl⟩, h.2⟩
  | group l =>
    obtain ⟨A, len, cap, rfl, hl⟩ := h
    exact mk_group l w A len cap hl (by have h1 := hl.1; have h2 : l.len ≤ 300000 := hb; omega) hP
  | any g =>
    exact (anyValue_any g w z h).mono fun e w' h => by
      obtain ⟨v', h1, h2, h3⟩ := h
      exact ⟨_, _, h1, by unfold again RSV; exact ⟨rfl, h2⟩, h3⟩
  | valuer n v c =>
    obtain ⟨vx, vy, rfl, hv⟩ := h
    exact (anyValue_valuer n vx vy c w).mono fun e w' h => ⟨_, _, h.1, by unfold again RSV; exact ⟨vx, vy, rfl, rfl, hv.turn ((keeps_of_below h.2).on P) (fun _ x _ => x)⟩, h.2⟩
  | throws s c =>
    obtain rfl := h
    exact (anyValue_throws s c w).mono fun e w' h => ⟨_, _, h.1, by unfold again RSV; exact ⟨rfl, rfl⟩, h.2⟩

end Go.Proofs.YtihhgnbgejjijaaGreatDoor.Va

/- The values of package slog that Vals stand for (impl.valueOf), by kinds: the walks. -/
import Derived.Test.YtdeomgfapffidaaGreatDoorOf
import Derived.Test.YtdeomgfapffidaaGreatDoorBits
import Derived.WalkSmall
namespace Go.Proofs.YtdeomgfapffidaaGreatDoor.Va
set_option linter.unusedVariables false
set_option linter.unusedSimpArgs false
open Go Go.RowKit

theorem wrap_back {n : Int} (hn : 0 ≤ n) (hn1 : n ≤ 18446744073709551615) : IntKind.u64.wrap (wrap64 n) = n := by
  simp only [IntKind.wrap, wrap64, IntKind.signed, IntKind.bits]
  simp
  omega

theorem bit_one {n : Int} (hn : 0 ≤ n) (hn1 : n ≤ 18446744073709551615) : bits BinOp.and IntKind.u64 n 1 = n % 2 := and_one_u64 n hn hn1

section
variable (c : Option Addr) (n : Int) (s : ByteArray) (t : GTime) (w : World) (A : Option Addr) (len cap : Nat)

set_option maxRecDepth 100000 in
set_option maxHeartbeats 400000 in
theorem of_uint (hn : 0 ≤ n) (hn1 : n ≤ 18446744073709551615) : Calls Tryz.prog 45 #[.agg #[.int .i64 7, .int .u64 n, .string s, .int .i64 t.sec, .int .i64 t.nsec, .int .i64 t.off, .slice A len cap], .pointer c] w (ValPost (.num 7 n) w) := by
  unfold ValPost
  go_enter Tryz.func45, Tryz.ntmps45
  go_wp2_with (go_at_call 89; refine (c_uint n _).mono ?_; rintro e w2 ⟨rfl, hb2⟩; have hB2 := keeps_below (show Below w.heap.size w _ from (by repeat' (first | with_reducible assumption | with_reducible exact Below.refl _ _ | with_reducible refine Below.setCell ?_ ?_ _ | with_reducible refine Below.alloc ?_ ?_ _ | with_reducible refine Below.drew ?_ | with_reducible refine below_drewN ?_ _ | omega | (simp; done) | (simp; omega)))) hb2; obtain ⟨hc2, hf2⟩ := bcell hb2; have hs2 := hb2.size; (try simp at hs2); have hl0 : w.heap.size < w2.heap.size := (by omega); have hl1 : w.heap.size + 1 < w2.heap.size := (by omega))
  exact bodyPost_ret (v := .agg #[.int .u64 n, .iface 125 (.int .i64 7)]) (by simp [results, Tryz.results45, go_sem, hc2, hf2, hl0, hl1]) rfl ⟨_, _, rfl, by unfold RSV; exact ⟨rfl, rfl, by omega, hn, hn1⟩, (by repeat' (first | with_reducible assumption | with_reducible exact Below.refl _ _ | with_reducible refine Below.setCell ?_ ?_ _ | with_reducible refine Below.alloc ?_ ?_ _ | with_reducible refine Below.drew ?_ | with_reducible refine below_drewN ?_ _ | omega | (simp; done) | (simp; omega)))⟩

set_option maxRecDepth 100000 in
set_option maxHeartbeats 400000 in
theorem of_str (hs : s.size ≤ 140737488355328) : Calls Tryz.prog 45 #[.agg #[.int .i64 5, .int .u64 n, .string s, .int .i64 t.sec, .int .i64 t.nsec, .int .i64 t.off, .slice A len cap], .pointer c] w (ValPost (.str s) w) := by
  unfold ValPost
  go_enter Tryz.func45, Tryz.ntmps45
  go_wp2_with (go_at_call 87; refine (c_str s hs _).mono ?_; rintro e w2 ⟨rfl, hb2⟩; have hB2 := keeps_below (show Below w.heap.size w _ from (by repeat' (first | with_reducible assumption | with_reducible exact Below.refl _ _ | with_reducible refine Below.setCell ?_ ?_ _ | with_reducible refine Below.alloc ?_ ?_ _ | with_reducible refine Below.drew ?_ | with_reducible refine below_drewN ?_ _ | omega | (simp; done) | (simp; omega)))) hb2; obtain ⟨hc2, hf2⟩ := bcell hb2; have hs2 := hb2.size; (try simp at hs2); have hl0 : w.heap.size < w2.heap.size := (by omega); have hl1 : w.heap.size + 1 < w2.heap.size := (by omega))
  exact bodyPost_ret (v := .agg #[.int .u64 s.size, .iface 197 (.string s)]) (by simp [results, Tryz.results45, go_sem, hc2, hf2, hl0, hl1]) rfl ⟨_, _, rfl, by unfold RSV; exact ⟨rfl, rfl⟩, (by repeat' (first | with_reducible assumption | with_reducible exact Below.refl _ _ | with_reducible refine Below.setCell ?_ ?_ _ | with_reducible refine Below.alloc ?_ ?_ _ | with_reducible refine Below.drew ?_ | with_reducible refine below_drewN ?_ _ | omega | (simp; done) | (simp; omega)))⟩

set_option maxRecDepth 100000 in
set_option maxHeartbeats 400000 in
theorem of_int (hn : 0 ≤ n) (hn1 : n ≤ 18446744073709551615) : Calls Tryz.prog 45 #[.agg #[.int .i64 4, .int .u64 n, .string s, .int .i64 t.sec, .int .i64 t.nsec, .int .i64 t.off, .slice A len cap], .pointer c] w (ValPost (.num 4 n) w) := by
  unfold ValPost
  go_enter Tryz.func45, Tryz.ntmps45
  go_wp2_with (go_at_call 86; refine (c_int _ _).mono ?_; rintro e w2 ⟨rfl, hb2⟩; rw [wrap_back hn hn1]; have hB2 := keeps_below (show Below w.heap.size w _ from (by repeat' (first | with_reducible assumption | with_reducible exact Below.refl _ _ | with_reducible refine Below.setCell ?_ ?_ _ | with_reducible refine Below.alloc ?_ ?_ _ | with_reducible refine Below.drew ?_ | with_reducible refine below_drewN ?_ _ | omega | (simp; done) | (simp; omega)))) hb2; obtain ⟨hc2, hf2⟩ := bcell hb2; have hs2 := hb2.size; (try simp at hs2); have hl0 : w.heap.size < w2.heap.size := (by omega); have hl1 : w.heap.size + 1 < w2.heap.size := (by omega))
  exact bodyPost_ret (v := .agg #[.int .u64 n, .iface 125 (.int .i64 4)]) (by simp [results, Tryz.results45, go_sem, hc2, hf2, hl0, hl1]) rfl ⟨_, _, rfl, by unfold RSV; exact ⟨rfl, rfl, by omega, hn, hn1⟩, (by repeat' (first | with_reducible assumption | with_reducible exact Below.refl _ _ | with_reducible refine Below.setCell ?_ ?_ _ | with_reducible refine Below.alloc ?_ ?_ _ | with_reducible refine Below.drew ?_ | with_reducible refine below_drewN ?_ _ | omega | (simp; done) | (simp; omega)))⟩

set_option maxRecDepth 100000 in
set_option maxHeartbeats 400000 in
theorem of_dur (hn : 0 ≤ n) (hn1 : n ≤ 18446744073709551615) : Calls Tryz.prog 45 #[.agg #[.int .i64 2, .int .u64 n, .string s, .int .i64 t.sec, .int .i64 t.nsec, .int .i64 t.off, .slice A len cap], .pointer c] w (ValPost (.num 2 n) w) := by
  unfold ValPost
  go_enter Tryz.func45, Tryz.ntmps45
  go_wp2_with (go_at_call 83; refine (c_dur _ _).mono ?_; rintro e w2 ⟨rfl, hb2⟩; rw [wrap_back hn hn1]; have hB2 := keeps_below (show Below w.heap.size w _ from (by repeat' (first | with_reducible assumption | with_reducible exact Below.refl _ _ | with_reducible refine Below.setCell ?_ ?_ _ | with_reducible refine Below.alloc ?_ ?_ _ | with_reducible refine Below.drew ?_ | with_reducible refine below_drewN ?_ _ | omega | (simp; done) | (simp; omega)))) hb2; obtain ⟨hc2, hf2⟩ := bcell hb2; have hs2 := hb2.size; (try simp at hs2); have hl0 : w.heap.size < w2.heap.size := (by omega); have hl1 : w.heap.size + 1 < w2.heap.size := (by omega))
  exact bodyPost_ret (v := .agg #[.int .u64 n, .iface 125 (.int .i64 2)]) (by simp [results, Tryz.results45, go_sem, hc2, hf2, hl0, hl1]) rfl ⟨_, _, rfl, by unfold RSV; exact ⟨rfl, rfl, by omega, hn, hn1⟩, (by repeat' (first | with_reducible assumption | with_reducible exact Below.refl _ _ | with_reducible refine Below.setCell ?_ ?_ _ | with_reducible refine Below.alloc ?_ ?_ _ | with_reducible refine Below.drew ?_ | with_reducible refine below_drewN ?_ _ | omega | (simp; done) | (simp; omega)))⟩

set_option maxRecDepth 100000 in
set_option maxHeartbeats 400000 in
theorem of_float (hn : 0 ≤ n) (hn1 : n ≤ 18446744073709551615) : Calls Tryz.prog 45 #[.agg #[.int .i64 3, .int .u64 n, .string s, .int .i64 t.sec, .int .i64 t.nsec, .int .i64 t.off, .slice A len cap], .pointer c] w (ValPost (.num 3 n) w) := by
  unfold ValPost
  have h1 := frombits_run
  go_enter Tryz.func45, Tryz.ntmps45
  go_wp2_with (go_at_call 84; refine (c_float _ _).mono ?_; rintro e w2 ⟨rfl, hb2⟩; rw [Int.toNat_of_nonneg hn]; have hB2 := keeps_below (show Below w.heap.size w _ from (by repeat' (first | with_reducible assumption | with_reducible exact Below.refl _ _ | with_reducible refine Below.setCell ?_ ?_ _ | with_reducible refine Below.alloc ?_ ?_ _ | with_reducible refine Below.drew ?_ | with_reducible refine below_drewN ?_ _ | omega | (simp; done) | (simp; omega)))) hb2; obtain ⟨hc2, hf2⟩ := bcell hb2; have hs2 := hb2.size; (try simp at hs2); have hl0 : w.heap.size < w2.heap.size := (by omega); have hl1 : w.heap.size + 1 < w2.heap.size := (by omega))
  exact bodyPost_ret (v := .agg #[.int .u64 n, .iface 125 (.int .i64 3)]) (by simp [results, Tryz.results45, go_sem, hc2, hf2, hl0, hl1]) rfl ⟨_, _, rfl, by unfold RSV; exact ⟨rfl, rfl, by omega, hn, hn1⟩, (by repeat' (first | with_reducible assumption | with_reducible exact Below.refl _ _ | with_reducible refine Below.setCell ?_ ?_ _ | with_reducible refine Below.alloc ?_ ?_ _ | with_reducible refine Below.drew ?_ | with_reducible refine below_drewN ?_ _ | omega | (simp; done) | (simp; omega)))⟩

set_option maxRecDepth 100000 in
set_option maxHeartbeats 400000 in
theorem of_time : Calls Tryz.prog 45 #[.agg #[.int .i64 6, .int .u64 n, .string s, .int .i64 t.sec, .int .i64 t.nsec, .int .i64 t.off, .slice A len cap], .pointer c] w (ValPost (.time t) w) := by
  unfold ValPost
  go_enter Tryz.func45, Tryz.ntmps45
  go_wp2_with (first
    | (go_at_call 59; refine (c_timeOf t _).mono ?_; rintro e w2 ⟨rfl, hb2⟩; have hB2 := keeps_below (show Below w.heap.size w _ from (by repeat' (first | with_reducible assumption | with_reducible exact Below.refl _ _ | with_reducible refine Below.setCell ?_ ?_ _ | with_reducible refine Below.alloc ?_ ?_ _ | with_reducible refine Below.drew ?_ | with_reducible refine below_drewN ?_ _ | omega | (simp; done) | (simp; omega)))) hb2; obtain ⟨hc2, hf2⟩ := bcell hb2; have hs2 := hb2.size; (try simp at hs2); have hl0_2 : w.heap.size < w2.heap.size := (by omega); have hl1_2 : w.heap.size + 1 < w2.heap.size := (by omega))
    | (go_at_call 88; refine (c_time t.sec t.nsec t.off (zone t) _).mono ?_; rintro e w3 ⟨rfl, hb3⟩; have hB3 := keeps_below (show Below w.heap.size w _ from (by repeat' (first | with_reducible assumption | with_reducible exact Below.refl _ _ | with_reducible refine Below.setCell ?_ ?_ _ | with_reducible refine Below.alloc ?_ ?_ _ | with_reducible refine Below.drew ?_ | with_reducible refine below_drewN ?_ _ | omega | (simp; done) | (simp; omega)))) hb3; obtain ⟨hc3, hf3⟩ := bcell hb3; have hs3 := hb3.size; (try simp at hs3); have hl0_3 : w.heap.size < w3.heap.size := (by omega); have hl1_3 : w.heap.size + 1 < w3.heap.size := (by omega)))
  exact bodyPost_ret (v := .agg #[.int .u64 0, .iface 198 (.agg #[.int .i64 t.sec, .int .i64 t.nsec, .int .i64 t.off, .string (zone t)])]) (by simp [results, Tryz.results45, go_sem, hc2, hf2, hl0_2, hl1_2, hc3, hf3, hl0_3, hl1_3]) rfl ⟨_, _, rfl, by unfold RSV; exact ⟨rfl, rfl⟩, (by repeat' (first | with_reducible assumption | with_reducible exact Below.refl _ _ | with_reducible refine Below.setCell ?_ ?_ _ | with_reducible refine Below.alloc ?_ ?_ _ | with_reducible refine Below.drew ?_ | with_reducible refine below_drewN ?_ _ | omega | (simp; done) | (simp; omega)))⟩

set_option maxRecDepth 100000 in
set_option maxHeartbeats 400000 in
theorem of_bool (hn : 0 ≤ n) (hn1 : n ≤ 18446744073709551615) : Calls Tryz.prog 45 #[.agg #[.int .i64 1, .int .u64 n, .string s, .int .i64 t.sec, .int .i64 t.nsec, .int .i64 t.off, .slice A len cap], .pointer c] w (ValPost (.num 1 (n % 2)) w) := by
  unfold ValPost
  have hbit := bit_one hn hn1
  have h2 : n % 2 = 0 ∨ n % 2 = 1 := by omega
  rcases h2 with h2 | h2
  · have hb : (bits BinOp.and IntKind.u64 n 1 == 1) = false := by rw [hbit, h2]; rfl
    rw [h2]
    go_enter Tryz.func45, Tryz.ntmps45
    go_wp2_with (go_at_call 82; refine (c_bool_f _).mono ?_; rintro e w2 ⟨rfl, hb2⟩; have hB2 := keeps_below (show Below w.heap.size w _ from (by repeat' (first | with_reducible assumption | with_reducible exact Below.refl _ _ | with_reducible refine Below.setCell ?_ ?_ _ | with_reducible refine Below.alloc ?_ ?_ _ | with_reducible refine Below.drew ?_ | with_reducible refine below_drewN ?_ _ | omega | (simp; done) | (simp; omega)))) hb2; obtain ⟨hc2, hf2⟩ := bcell hb2; have hs2 := hb2.size; simp at hs2; have hl0 : w.heap.size < w2.heap.size := (by omega); have hl1 : w.heap.size + 1 < w2.heap.size := (by omega))
    exact bodyPost_ret (v := .agg #[.int .u64 0, .iface 125 (.int .i64 1)]) (by simp [results, Tryz.results45, go_sem, hc2, hf2, hl0, hl1]) rfl ⟨_, _, rfl, by unfold RSV; exact ⟨rfl, rfl, by omega, by omega, by omega⟩, (by repeat' (first | with_reducible assumption | with_reducible exact Below.refl _ _ | with_reducible refine Below.setCell ?_ ?_ _ | with_reducible refine Below.alloc ?_ ?_ _ | with_reducible refine Below.drew ?_ | with_reducible refine below_drewN ?_ _ | omega | (simp; done) | (simp; omega)))⟩
  · have hb : (bits BinOp.and IntKind.u64 n 1 == 1) = true := by rw [hbit, h2]; rfl
    rw [h2]
    go_enter Tryz.func45, Tryz.ntmps45
    go_wp2_with (go_at_call 82; refine (c_bool_t _).mono ?_; rintro e w2 ⟨rfl, hb2⟩; have hB2 := keeps_below (show Below w.heap.size w _ from (by repeat' (first | with_reducible assumption | with_reducible exact Below.refl _ _ | with_reducible refine Below.setCell ?_ ?_ _ | with_reducible refine Below.alloc ?_ ?_ _ | with_reducible refine Below.drew ?_ | with_reducible refine below_drewN ?_ _ | omega | (simp; done) | (simp; omega)))) hb2; obtain ⟨hc2, hf2⟩ := bcell hb2; have hs2 := hb2.size; simp at hs2; have hl0 : w.heap.size < w2.heap.size := (by omega); have hl1 : w.heap.size + 1 < w2.heap.size := (by omega))
    exact bodyPost_ret (v := .agg #[.int .u64 1, .iface 125 (.int .i64 1)]) (by simp [results, Tryz.results45, go_sem, hc2, hf2, hl0, hl1]) rfl ⟨_, _, rfl, by unfold RSV; exact ⟨rfl, rfl, by omega, by omega, by omega⟩, (by repeat' (first | with_reducible assumption | with_reducible exact Below.refl _ _ | with_reducible refine Below.setCell ?_ ?_ _ | with_reducible refine Below.alloc ?_ ?_ _ | with_reducible refine Below.drew ?_ | with_reducible refine below_drewN ?_ _ | omega | (simp; done) | (simp; omega)))⟩

end

end Go.Proofs.YtdeomgfapffidaaGreatDoor.Va

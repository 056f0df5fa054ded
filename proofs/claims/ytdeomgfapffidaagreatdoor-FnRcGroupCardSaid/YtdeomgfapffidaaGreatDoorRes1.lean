/- The deferred closure of Value.Resolve. -/
import Derived.Test.YtdeomgfapffidaaGreatDoorLogV
namespace Go.Proofs.YtdeomgfapffidaaGreatDoor.Va
set_option linter.unusedVariables false
set_option linter.unusedSimpArgs false
open Go Go.RowKit

/-- "LogValue panicked\n(no stack)". -/
def panText : ByteArray := ⟨#[76, 111, 103, 86, 97, 108, 117, 101, 32, 112, 97, 110, 105, 99, 107, 101, 100, 10, 40, 110, 111, 32, 115, 116, 97, 99, 107, 41]⟩

theorem stack_any (a b : Int) (w : World) : Calls Tryz.prog 94 #[.int .i64 a, .int .i64 b] w fun e w' => e = .returned (.string ⟨#[40, 110, 111, 32, 115, 116, 97, 99, 107, 41]⟩) ∧ w = w' := by
  go_enter Tryz.func94, Tryz.ntmps94
  go_wp2
  go_ret
  exact ⟨rfl, rfl⟩

/-- errors.New. -/
theorem errNew_any (s : ByteArray) (w : World) : Calls Tryz.prog 93 #[.string s] w fun e w' => e = .returned (.iface 205 (.pointer (some ⟨w.heap.size, 0, none⟩))) ∧ w' = w.alloc (.cells #[.string s] 207) := by
  go_enter Tryz.func93, Tryz.ntmps93
  go_wp2
  go_ret
  exact ⟨rfl, rfl⟩

set_option maxRecDepth 100000 in
set_option maxHeartbeats 400000 in
theorem mk_err (v : Value) (w : World) : Calls Tryz.prog 47 #[.iface 205 v] w fun e w' => e = .returned (.agg #[.int .u64 0, .iface 205 v]) ∧ Below w.heap.size w w' := by
  go_enter Tryz.func47, Tryz.ntmps47
  go_wp2
  exact bodyPost_ret (v := .agg #[.int .u64 0, .iface 205 v]) (by simp [results, Tryz.results47, go_sem]) rfl ⟨rfl, (by repeat' (first | with_reducible assumption | with_reducible exact Below.refl _ _ | with_reducible refine Below.setCell ?_ ?_ _ | with_reducible refine Below.alloc ?_ ?_ _ | with_reducible refine Below.drew ?_ | with_reducible refine below_drewN ?_ _ | omega | (simp; done) | (simp; omega)))⟩

set_option maxRecDepth 100000 in
set_option maxHeartbeats 400000 in
theorem resD_idle (p : Addr) (w : World) :
    CallsD Tryz.prog 92 #[.pointer (some p)] .returning w fun e u' w' => e = .returned (.tuple #[]) ∧ u' = .returning ∧ w' = w := by
  refine callsD_of_wpS Tryz.func92 rfl fun c₀ cs hu => ?_
  apply wpS_seq
  apply wpS_region
  simp [wpOpsS, go_sem, recoverD, hu, Tryz.ntmps92, Exit.thenS]
  refine wpS_of_wp ?_
  go_wp2
  cases c₀
  simp_all [bodyPostS, results, Tryz.results92]

set_option maxRecDepth 100000 in
set_option maxHeartbeats 400000 in
theorem resD_panicking (b : Nat) (u : TypeId) (pv : Value) (older : List PanicEntry) (w : World) (x y : Value) (c0 : w.cell? ⟨b, 0, none⟩ = some x) (c1 : w.cell? ⟨b, 1, none⟩ = some y) (f0 : w.frozen? ⟨b, 0, none⟩ = false) (f1 : w.frozen? ⟨b, 1, none⟩ = false) :
    CallsD Tryz.prog 92 #[.pointer (some ⟨b, 0, none⟩)] (.panicking ({ v := .iface u pv, recovered := false } :: older)) w fun e u' w' =>
      e = .returned (.tuple #[]) ∧ u' = .panicking ({ v := .iface u pv, recovered := true } :: older) ∧ ∃ wm, Below w.heap.size w wm ∧ wm.cell? ⟨w.heap.size, 0, none⟩ = some (.string panText) ∧
        w' = (wm.setCell ⟨b, 0, none⟩ (.int .u64 0)).setCell ⟨b, 1, none⟩ (.iface 205 (.pointer (some ⟨w.heap.size, 0, none⟩))) := by
  have lb : b < w.heap.size := World.block_lt_of_cell? _ _ c0
  refine callsD_of_wpS Tryz.func92 rfl fun c₀ cs hu => ?_
  apply wpS_seq
  apply wpS_region
  simp [wpOpsS, go_sem, recoverD, hu, Tryz.ntmps92, Exit.thenS]
  refine wpS_of_wp ?_
  go_wp2_with (first
    | (go_at_call 94; refine (stack_any _ _ _).mono ?_; rintro e w1 ⟨rfl, rfl⟩)
    | (go_at_call 93; refine (errNew_any _ _).mono ?_; rintro e w1 ⟨rfl, rfl⟩)
    | (go_at_call 47; refine (mk_err _ _).mono ?_; rintro e w1 ⟨rfl, hb1⟩; obtain ⟨hc1, hf1⟩ := bcell hb1; have hz1 := hb1.size; simp at hz1))
  have ht : ((⟨#[76, 111, 103, 86, 97, 108, 117, 101, 32, 112, 97, 110, 105, 99, 107, 101, 100, 10]⟩ : ByteArray) ++ (⟨#[40, 110, 111, 32, 115, 116, 97, 99, 107, 41]⟩ : ByteArray)) = panText := by rfl
  refine ⟨rfl, _, rfl, .tuple #[], by simp [results, Tryz.results92], rfl, rfl, w1, ((Below.refl _ _).alloc (Nat.le_refl _) _).trans (hb1.mono (by simp)), ?_, rfl⟩
  have hcell := (keeps_of_below hb1).cell (cell_new _ _ _ _ 0 _ rfl rfl)
  rw [hcell, ht]
  rfl
end Go.Proofs.YtdeomgfapffidaaGreatDoor.Va

/- The methods LogValue of the values that give others, and of those that panic: the walks. -/
import Derived.Test.YtihhgnbgejjijaaGreatDoorBut
import Derived.Test.YtihhgnbgejjijaaGreatDoorBox
import Derived.Test.YtihhgnbgejjijaaGreatDoorOfD
import Derived.Test.YtihhgnbgejjijaaGreatDoorAccF
import Derived.Test.YtihhgnbgejjijaaGreatDoorAgainB
namespace Go.Proofs.YtihhgnbgejjijaaGreatDoor.Va
set_option linter.unusedVariables false
set_option linter.unusedSimpArgs false
open Go Go.RowKit

/-- What a call of LogValue leaves: the counter one more. -/
def CntEnd (g : Nat) (k : Int) (w w' : World) : Prop := w'.cell? ⟨g, 0, none⟩ = some (.int .i64 k) ∧ w'.frozen? ⟨g, 0, none⟩ = false ∧ But g w w'
def LvEnd (r : Value) (g : Nat) (k : Int) (w : World) (e : Ending) (w' : World) : Prop := e = .returned r ∧ CntEnd g (k + 1) w w'
def LvBad (s : ByteArray) (g : Nat) (k : Int) (w : World) (e : Ending) (w' : World) : Prop := e = .panicked [{ v := .iface 9 (.string s), recovered := false }] ∧ CntEnd g (k + 1) w w'

theorem cnt_set {g : Nat} {k j : Int} {w : World} (hc : w.cell? ⟨g, 0, none⟩ = some (.int .i64 k)) (hf : w.frozen? ⟨g, 0, none⟩ = false) : CntEnd g j w (w.setCell ⟨g, 0, none⟩ (.int .i64 j)) :=
  ⟨World.cell?_setCell_same w ⟨g, 0, none⟩ (.int .i64 j) hc, by rw [World.frozen?_setCell]; exact hf, (But.refl g w).set 0 _⟩
theorem CntEnd.below {g : Nat} {k : Int} {w w1 w2 : World} (h : CntEnd g k w w1) (hb : Below w1.heap.size w1 w2) : CntEnd g k w w2 := by
  have lg : g < w1.heap.size := World.block_lt_of_cell? _ _ h.1
  exact ⟨(keeps_of_below hb).cell h.1, (hb.frozen (p := ⟨g, 0, none⟩) lg).trans h.2.1, h.2.2.below hb⟩
theorem CntEnd.alloc {g : Nat} {k : Int} {w w1 : World} (h : CntEnd g k w w1) (o : Obj) : CntEnd g k w (w1.alloc o) := h.below ((Below.refl _ _).alloc (Nat.le_refl _) _)
theorem CntEnd.setOwn {g : Nat} {k : Int} {w w1 : World} (h : CntEnd g k w w1) (lg : g < w.heap.size) (p : Addr) (hp : w.heap.size ≤ p.block) (v : Value) : CntEnd g k w (w1.setCell p v) := by
  have hne : p ≠ ⟨g, 0, none⟩ := by intro e; subst e; exact absurd hp (Nat.not_le.2 lg)
  exact ⟨by rw [World.cell?_setCell_other _ _ _ _ hne]; exact h.1, by rw [World.frozen?_setCell]; exact h.2.1, h.2.2.setOwn p hp v⟩

section
variable (g : Nat) (k : Int) (w : World) (h0 : 0 ≤ k) (h1 : k ≤ 100) (hc : w.cell? ⟨g, 0, none⟩ = some (.int .i64 k)) (hf : w.frozen? ⟨g, 0, none⟩ = false)

set_option maxRecDepth 100000 in
set_option maxHeartbeats 400000 in
include h0 h1 hc hf in
theorem lv_throws (s : ByteArray) : Calls Tryz.prog 259 #[.agg #[.string s, .pointer (some ⟨g, 0, none⟩)]] w (LvBad s g k w) := by
  unfold LvBad
  have lg : g < w.heap.size := World.block_lt_of_cell? _ _ hc
  have HC := Lib.hid (cnt_set (j := k + 1) hc hf)
  go_enter Tryz.func259, Tryz.ntmps259
  go_wp2
  exact ⟨rfl, rfl, (HC.out.alloc _).alloc _⟩

set_option maxRecDepth 100000 in
set_option maxHeartbeats 400000 in
include h0 h1 hc hf in
theorem lv_last (n i : Int) (y : Value) (hy : y = .nilIface ∨ ∃ t u, y = .iface t u) (hn : n ≤ 1) : Calls Tryz.prog 260 #[.agg #[.int .u64 n, .int .u64 i, y, .pointer (some ⟨g, 0, none⟩)]] w (LvEnd (.agg #[.int .u64 i, y]) g k w) := by
  unfold LvEnd
  have lg : g < w.heap.size := World.block_lt_of_cell? _ _ hc
  have HC := Lib.hid (cnt_set (j := k + 1) hc hf)
  rcases hy with rfl | ⟨t, u, rfl⟩
  · go_enter Tryz.func260, Tryz.ntmps260
    go_wp2
    exact bodyPost_ret (v := .agg #[.int .u64 i, .nilIface]) (by simp [results, Tryz.results260, go_sem]) rfl ⟨rfl, (HC.out.alloc _).alloc _⟩
  · go_enter Tryz.func260, Tryz.ntmps260
    go_wp2
    exact bodyPost_ret (v := .agg #[.int .u64 i, .iface t u]) (by simp [results, Tryz.results260, go_sem]) rfl ⟨rfl, (HC.out.alloc _).alloc _⟩

set_option maxRecDepth 100000 in
set_option maxHeartbeats 400000 in
include h0 h1 hc hf in
theorem lv_more (n i : Int) (y : Value) (hy : y = .nilIface ∨ ∃ t u, y = .iface t u) (hn : 1 < n) (hn1 : n ≤ 18446744073709551615) : Calls Tryz.prog 260 #[.agg #[.int .u64 n, .int .u64 i, y, .pointer (some ⟨g, 0, none⟩)]] w
    (LvEnd (.agg #[.int .u64 0, .iface 196 (.agg #[.int .u64 (n - 1), .int .u64 i, y, .pointer (some ⟨g, 0, none⟩)])]) g k w) := by
  unfold LvEnd
  have lg : g < w.heap.size := World.block_lt_of_cell? _ _ hc
  have HC := Lib.hid (cnt_set (j := k + 1) hc hf)
  rcases hy with rfl | ⟨t, u, rfl⟩
  · go_enter Tryz.func260, Tryz.ntmps260
    go_wp2_with (go_at_call 100; refine (anyValue_valuer _ _ _ _ _).mono ?_; rintro e w2 ⟨rfl, hb2⟩; obtain ⟨hc2, hf2⟩ := bcell hb2; have hz2 := hb2.size; simp at hz2; have e20 : w.heap.size + 1 < w2.heap.size := (by omega); have HE := Lib.hid (((HC.out.alloc _).alloc _).below hb2))
    exact bodyPost_ret (v := .agg #[.int .u64 0, .iface 196 (.agg #[.int .u64 (n - 1), .int .u64 i, .nilIface, .pointer (some ⟨g, 0, none⟩)])]) (by simp [results, Tryz.results260, go_sem, hc2, hf2, e20]) rfl ⟨rfl, (HE.out.setOwn lg _ (by simp) _).setOwn lg _ (by simp) _⟩
  · go_enter Tryz.func260, Tryz.ntmps260
    go_wp2_with (go_at_call 100; refine (anyValue_valuer _ _ _ _ _).mono ?_; rintro e w2 ⟨rfl, hb2⟩; obtain ⟨hc2, hf2⟩ := bcell hb2; have hz2 := hb2.size; simp at hz2; have e20 : w.heap.size + 1 < w2.heap.size := (by omega); have HE := Lib.hid (((HC.out.alloc _).alloc _).below hb2))
    exact bodyPost_ret (v := .agg #[.int .u64 0, .iface 196 (.agg #[.int .u64 (n - 1), .int .u64 i, .iface t u, .pointer (some ⟨g, 0, none⟩)])]) (by simp [results, Tryz.results260, go_sem, hc2, hf2, e20]) rfl ⟨rfl, (HE.out.setOwn lg _ (by simp) _).setOwn lg _ (by simp) _⟩
end
end Go.Proofs.YtihhgnbgejjijaaGreatDoor.Va

/- The deferred closure of Value.Resolve. -/
namespace Go.Proofs.YtihhgnbgejjijaaGreatDoor.Va
set_option linter.unusedVariables false
set_option linter.unusedSimpArgs false
open Go Go.RowKit

/-- "LogValue panicked\n(no stack)". -/
def panText : ByteArray := ⟨#[76, 111, 103, 86, 97, 108, 117, 101, 32, 112, 97, 110, 105, 99, 107, 101, 100, 10, 40, 110, 111, 32, 115, 116, 97, 99, 107, 41]⟩

theorem stack_any (a b : Int) (w : World) : Calls Tryz.prog 143 #[.int .i64 a, .int .i64 b] w fun e w' => e = .returned (.string ⟨#[40, 110, 111, 32, 115, 116, 97, 99, 107, 41]⟩) ∧ w = w' := by
  go_enter Tryz.func143, Tryz.ntmps143
  go_wp2
  go_ret
  exact ⟨rfl, rfl⟩

/-- errors.New. -/
theorem errNew_any (s : ByteArray) (w : World) : Calls Tryz.prog 142 #[.string s] w fun e w' => e = .returned (.iface 247 (.pointer (some ⟨w.heap.size, 0, none⟩))) ∧ w' = w.alloc (.cells #[.string s] 249) := by
  go_enter Tryz.func142, Tryz.ntmps142
  go_wp2
  go_ret
  exact ⟨rfl, rfl⟩

set_option maxRecDepth 100000 in
set_option maxHeartbeats 400000 in
theorem mk_err (v : Value) (w : World) : Calls Tryz.prog 100 #[.iface 247 v] w fun e w' => e = .returned (.agg #[.int .u64 0, .iface 247 v]) ∧ Below w.heap.size w w' := by
  go_enter Tryz.func100, Tryz.ntmps100
  go_wp2
  exact bodyPost_ret (v := .agg #[.int .u64 0, .iface 247 v]) (by simp [results, Tryz.results100, go_sem]) rfl ⟨rfl, (by repeat' (first | with_reducible assumption | with_reducible exact Below.refl _ _ | with_reducible refine Below.setCell ?_ ?_ _ | with_reducible refine Below.alloc ?_ ?_ _ | with_reducible refine Below.drew ?_ | with_reducible refine below_drewN ?_ _ | omega | (simp; done) | (simp; omega)))⟩

set_option maxRecDepth 100000 in
set_option maxHeartbeats 400000 in
theorem resD_idle (p : Addr) (w : World) :
    CallsD Tryz.prog 141 #[.pointer (some p)] .returning w fun e u' w' => e = .returned (.tuple #[]) ∧ u' = .returning ∧ w' = w := by
  refine callsD_of_wpS Tryz.func141 rfl fun c₀ cs hu => ?_
  apply wpS_seq
  apply wpS_region
  simp [wpOpsS, go_sem, recoverD, hu, Tryz.ntmps141, Exit.thenS]
  refine wpS_of_wp ?_
  go_wp2
  cases c₀
  simp_all [bodyPostS, results, Tryz.results141]

set_option maxRecDepth 100000 in
set_option maxHeartbeats 400000 in
theorem resD_panicking (b : Nat) (u : TypeId) (pv : Value) (older : List PanicEntry) (w : World) (x y : Value) (c0 : w.cell? ⟨b, 0, none⟩ = some x) (c1 : w.cell? ⟨b, 1, none⟩ = some y) (f0 : w.frozen? ⟨b, 0, none⟩ = false) (f1 : w.frozen? ⟨b, 1, none⟩ = false) :
    CallsD Tryz.prog 141 #[.pointer (some ⟨b, 0, none⟩)] (.panicking ({ v := .iface u pv, recovered := false } :: older)) w fun e u' w' =>
      e = .returned (.tuple #[]) ∧ u' = .panicking ({ v := .iface u pv, recovered := true } :: older) ∧ ∃ wm, Below w.heap.size w wm ∧ wm.cell? ⟨w.heap.size, 0, none⟩ = some (.string panText) ∧
        w' = (wm.setCell ⟨b, 0, none⟩ (.int .u64 0)).setCell ⟨b, 1, none⟩ (.iface 247 (.pointer (some ⟨w.heap.size, 0, none⟩))) := by
  have lb : b < w.heap.size := World.block_lt_of_cell? _ _ c0
  refine callsD_of_wpS Tryz.func141 rfl fun c₀ cs hu => ?_
  apply wpS_seq
  apply wpS_region
  simp [wpOpsS, go_sem, recoverD, hu, Tryz.ntmps141, Exit.thenS]
  refine wpS_of_wp ?_
  go_wp2_with (first
    | (go_at_call 143; refine (stack_any _ _ _).mono ?_; rintro e w1 ⟨rfl, rfl⟩)
    | (go_at_call 142; refine (errNew_any _ _).mono ?_; rintro e w1 ⟨rfl, rfl⟩)
    | (go_at_call 100; refine (mk_err _ _).mono ?_; rintro e w1 ⟨rfl, hb1⟩; obtain ⟨hc1, hf1⟩ := bcell hb1; have hz1 := hb1.size; simp at hz1))
  have ht : ((⟨#[76, 111, 103, 86, 97, 108, 117, 101, 32, 112, 97, 110, 105, 99, 107, 101, 100, 10]⟩ : ByteArray) ++ (⟨#[40, 110, 111, 32, 115, 116, 97, 99, 107, 41]⟩ : ByteArray)) = panText := by rfl
  refine ⟨rfl, _, rfl, .tuple #[], by simp [results, Tryz.results141], rfl, rfl, w1, ((Below.refl _ _).alloc (Nat.le_refl _) _).trans (hb1.mono (by simp)), ?_, rfl⟩
  have hcell := (keeps_of_below hb1).cell (cell_new _ _ _ _ 0 _ rfl rfl)
  rw [hcell, ht]
  rfl
end Go.Proofs.YtihhgnbgejjijaaGreatDoor.Va

/- Value.Resolve: the walk. -/
namespace Go.Proofs.YtihhgnbgejjijaaGreatDoor.Va
set_option linter.unusedVariables false
set_option linter.unusedSimpArgs false
open Go Go.RowKit

/-- What a call of LogValue gives. -/
def nextV : SVal → SVal
  | .valuer n v c => if n ≤ 1 then v else .valuer (n - 1) v c
  | d => d
/-- How Resolve ends: with a value, behind so many calls; by a panic; or with too many calls. -/
inductive Out where
  | val (d : SVal) (calls : Nat)
  | pan (calls : Nat)
  | much
def resolveS : Nat → SVal → Nat → Out
  | 0, _, _ => .much
  | f + 1, d, c => match d with
    | .valuer _ _ _ => resolveS f (nextV d) (c + 1)
    | .throws _ _ => .pan (c + 1)
    | _ => .val d c
/-- The counters of the values that give others. -/
def chainC (c : Option Addr) : SVal → Prop
  | .valuer n v c' => c' = c ∧ n ≤ 18446744073709551615 ∧ chainC c v
  | .throws _ c' => c' = c
  | _ => True
/-- "LogValue called too many times on Value of type slog.LogValuer". -/
def muchText : ByteArray := ⟨#[76, 111, 103, 86, 97, 108, 117, 101, 32, 99, 97, 108, 108, 101, 100, 32, 116, 111, 111, 32, 109, 97, 110, 121, 32, 116, 105, 109, 101, 115, 32, 111, 110, 32, 86, 97, 108, 117, 101, 32, 111, 102, 32, 116, 121, 112, 101, 32, 115, 108, 111, 103, 46, 76, 111, 103, 86, 97, 108, 117, 101, 114]⟩

/-- An error among the values. -/
def ErrAt (w : World) (s : ByteArray) (e : Ending) (w' : World) : Prop := ∃ b, e = .returned (.agg #[.int .u64 0, .iface 247 (.pointer (some ⟨b, 0, none⟩))]) ∧ w'.cell? ⟨b, 0, none⟩ = some (.string s) ∧ w.heap.size ≤ b
/-- What Value.Resolve hands back. -/
def ResEnd (P : Nat → Prop) (g : Nat) (w : World) : Out → Ending → World → Prop
  | .val d c, e, w' => (∃ x y, e = .returned (.agg #[x, y]) ∧ RSV P w' d x y) ∧ CntEnd g c w w'
  | .pan c, e, w' => ErrAt w panText e w' ∧ CntEnd g c w w'
  | .much, e, w' => ErrAt w muchText e w' ∧ CntEnd g 100 w w'

def Bx3 (w : World) (j : Int) (y : Value) (j0 : Int) (y0 : Value) (wr : World) : Prop :=
  wr.cell? ⟨w.heap.size, 0, none⟩ = some (.int .u64 j) ∧ wr.cell? ⟨w.heap.size, 1, none⟩ = some y ∧ wr.frozen? ⟨w.heap.size, 0, none⟩ = false ∧ wr.frozen? ⟨w.heap.size, 1, none⟩ = false ∧
  wr.cell? ⟨w.heap.size + 1, 0, none⟩ = some (.int .u64 0) ∧ wr.cell? ⟨w.heap.size + 1, 1, none⟩ = some .nilIface ∧ wr.frozen? ⟨w.heap.size + 1, 0, none⟩ = false ∧ wr.frozen? ⟨w.heap.size + 1, 1, none⟩ = false ∧
  wr.cell? ⟨w.heap.size + 1 + 1, 0, none⟩ = some (.int .u64 j0) ∧ wr.cell? ⟨w.heap.size + 1 + 1, 1, none⟩ = some y0 ∧ w.heap.size + 1 + 1 < wr.heap.size
theorem Bx3.below {w wr w1 : World} {j : Int} {y : Value} {j0 : Int} {y0 : Value} (h : Bx3 w j y j0 y0 wr) (hb : Below wr.heap.size wr w1) : Bx3 w j y j0 y0 w1 := by
  obtain ⟨a0, a1, a2, a3, a4, a5, a6, a7, a8, a9, hz⟩ := h
  have hk := keeps_of_below hb
  have hs := hb.size
  exact ⟨hk.cell a0, hk.cell a1, (hb.frozen (p := ⟨w.heap.size, 0, none⟩) (by show w.heap.size < _; omega)).trans a2, (hb.frozen (p := ⟨w.heap.size, 1, none⟩) (by show w.heap.size < _; omega)).trans a3, hk.cell a4, hk.cell a5,
    (hb.frozen (p := ⟨w.heap.size + 1, 0, none⟩) (by show w.heap.size + 1 < _; omega)).trans a6, (hb.frozen (p := ⟨w.heap.size + 1, 1, none⟩) (by show w.heap.size + 1 < _; omega)).trans a7, hk.cell a8, hk.cell a9, by omega⟩
theorem Bx3.but {w wr w1 : World} {g : Nat} {j : Int} {y : Value} {j0 : Int} {y0 : Value} (h : Bx3 w j y j0 y0 wr) (lg : g < w.heap.size) (hb : But g wr w1) : Bx3 w j y j0 y0 w1 := by
  obtain ⟨a0, a1, a2, a3, a4, a5, a6, a7, a8, a9, hz⟩ := h
  have hs := hb.size
  exact ⟨(hb.cell (by omega) (by omega)).trans a0, (hb.cell (by omega) (by omega)).trans a1, (hb.frozen (by omega) (by omega)).trans a2, (hb.frozen (by omega) (by omega)).trans a3, (hb.cell (by omega) (by omega)).trans a4, (hb.cell (by omega) (by omega)).trans a5,
    (hb.frozen (by omega) (by omega)).trans a6, (hb.frozen (by omega) (by omega)).trans a7, (hb.cell (by omega) (by omega)).trans a8, (hb.cell (by omega) (by omega)).trans a9, by omega⟩
theorem Bx3.set {w wr : World} {j j' : Int} {y y' : Value} {j0 : Int} {y0 : Value} (h : Bx3 w j y j0 y0 wr) : Bx3 w j' y' j0 y0 ((wr.setCell ⟨w.heap.size, 0, none⟩ (.int .u64 j')).setCell ⟨w.heap.size, 1, none⟩ y') := by
  obtain ⟨a0, a1, a2, a3, a4, a5, a6, a7, a8, a9, hz⟩ := h
  have n1 : ∀ o i : Nat, (⟨w.heap.size, i, none⟩ : Addr) ≠ ⟨w.heap.size + 1, o, none⟩ := by intro o i e; injection e with e; omega
  have n2 : ∀ o i : Nat, (⟨w.heap.size, i, none⟩ : Addr) ≠ ⟨w.heap.size + 1 + 1, o, none⟩ := by intro o i e; injection e with e; omega
  have n3 : (⟨w.heap.size, 1, none⟩ : Addr) ≠ ⟨w.heap.size, 0, none⟩ := by intro e; injection e with _ e; omega
  have c1 : (wr.setCell ⟨w.heap.size, 0, none⟩ (.int .u64 j')).cell? ⟨w.heap.size, 1, none⟩ = some y := by rw [World.cell?_setCell_other _ _ _ _ n3.symm]; exact a1
  refine ⟨?_, World.cell?_setCell_same _ _ _ c1, ?_, ?_, ?_, ?_, ?_, ?_, ?_, ?_, ?_⟩
  · rw [World.cell?_setCell_other _ _ _ _ n3]; exact World.cell?_setCell_same _ _ _ a0
  · rw [World.frozen?_setCell, World.frozen?_setCell]; exact a2
  · rw [World.frozen?_setCell, World.frozen?_setCell]; exact a3
  · rw [World.cell?_setCell_other _ _ _ _ (n1 _ _), World.cell?_setCell_other _ _ _ _ (n1 _ _)]; exact a4
  · rw [World.cell?_setCell_other _ _ _ _ (n1 _ _), World.cell?_setCell_other _ _ _ _ (n1 _ _)]; exact a5
  · rw [World.frozen?_setCell, World.frozen?_setCell]; exact a6
  · rw [World.frozen?_setCell, World.frozen?_setCell]; exact a7
  · rw [World.cell?_setCell_other _ _ _ _ (n2 _ _), World.cell?_setCell_other _ _ _ _ (n2 _ _)]; exact a8
  · rw [World.cell?_setCell_other _ _ _ _ (n2 _ _), World.cell?_setCell_other _ _ _ _ (n2 _ _)]; exact a9
  · simpa using hz
theorem CntEnd.trans {g : Nat} {k k' : Int} {a b c : World} (h : CntEnd g k a b) (h' : CntEnd g k' b c) : CntEnd g k' a c := ⟨h'.1, h'.2.1, h.2.2.trans h'.2.2⟩

theorem meth_valuer (k : Nat) (v : Value) (w : World) : (method (k + 1) 196 v "LogValue").run Tryz.prog w = .ok (260, v) w := by kernel_rfl
theorem meth_throws (k : Nat) (v : Value) (w : World) : (method (k + 1) 194 v "LogValue").run Tryz.prog w = .ok (259, v) w := by kernel_rfl
theorem bx3_start (w : World) (j0 : Int) (y0 : Value) (t : TypeId) : Bx3 w j0 y0 j0 y0 (((w.alloc (.cells #[.int .u64 j0, y0] t)).alloc (.cells #[.int .u64 0, .nilIface] t)).alloc (.cells #[.int .u64 j0, y0] t)) := by
  have k1 := (keeps_alloc (w.alloc (.cells #[.int .u64 j0, y0] t)) (.cells #[.int .u64 0, .nilIface] t)).trans (keeps_alloc _ (.cells #[.int .u64 j0, y0] t))
  have k2 := keeps_alloc ((w.alloc (.cells #[.int .u64 j0, y0] t)).alloc (.cells #[.int .u64 0, .nilIface] t)) (.cells #[.int .u64 j0, y0] t)
  refine ⟨k1.cell (cell_new _ _ _ _ 0 _ rfl rfl), k1.cell (cell_new _ _ _ _ 1 _ rfl rfl), ?_, ?_, k2.cell (cell_new _ _ _ _ 0 _ (by simp) rfl), k2.cell (cell_new _ _ _ _ 1 _ (by simp) rfl), ?_, ?_, cell_new _ _ _ _ 0 _ (by simp) rfl, cell_new _ _ _ _ 1 _ (by simp) rfl, by simp⟩
  all_goals (simp [go_sem])

/-- One round. -/
def ResRnd (P : Nat → Prop) (d : SVal) (g : Nat) (w : World) (s4 : Value) (wr : World) : Prop :=
  ∃ (i : Nat) (di : SVal) (j : Int) (y : Value) (j0 : Int) (y0 : Value), i ≤ 100 ∧ s4 = .int .i64 i ∧ resolveS 100 d 0 = resolveS (100 - i) di i ∧ RSV P w di (.int .u64 j) y ∧ RSV P w d (.int .u64 j0) y0 ∧ chainC (some ⟨g, 0, none⟩) di ∧ CntEnd g i w wr ∧ Bx3 w j y j0 y0 wr

--BODY
theorem resolveS_step {n : Int} {v : SVal} {c : Option Addr} {i : Nat} (h : i < 100) : resolveS (100 - i) (.valuer n v c) i = resolveS (100 - (i + 1)) (nextV (.valuer n v c)) (i + 1) := by
  rw [show 100 - i = (100 - (i + 1)) + 1 by omega]; rfl
theorem resolveS_pan {s : ByteArray} {c : Option Addr} {i : Nat} (h : i < 100) : resolveS (100 - i) (.throws s c) i = .pan (i + 1) := by
  rw [show 100 - i = (100 - (i + 1)) + 1 by omega]; rfl
theorem resolveS_val {d : SVal} {i : Nat} (h : i < 100) (hk : ¬ d.kind = 9) : resolveS (100 - i) d i = .val d i := by
  rw [show 100 - i = (100 - (i + 1)) + 1 by omega]
  cases d with
  | valuer n v c => exact absurd rfl hk
  | throws s c => exact absurd rfl hk
  | _ => rfl
theorem next_last {n : Int} {v : SVal} {c : Option Addr} (h : n ≤ 1) : nextV (.valuer n v c) = v := by simp [nextV, h]
theorem next_more {n : Int} {v : SVal} {c : Option Addr} (h : ¬ n ≤ 1) : nextV (.valuer n v c) = .valuer (n - 1) v c := by simp [nextV, h]
theorem zzType_any (v : Value) (w : World) : Calls Tryz.prog 145 #[v] w fun e w' => e = .returned (.string ⟨#[115, 108, 111, 103, 46, 76, 111, 103, 86, 97, 108, 117, 101, 114]⟩) ∧ w = w' := by
  go_enter Tryz.func145, Tryz.ntmps145
  go_wp2
  go_ret
  exact ⟨rfl, rfl⟩
theorem set_result {w wr : World} {b : Nat} {v0 v1 x y : Value} (c0 : wr.cell? ⟨b, 0, none⟩ = some x) (c1 : wr.cell? ⟨b, 1, none⟩ = some y) :
    ((wr.setCell ⟨b, 0, none⟩ v0).setCell ⟨b, 1, none⟩ v1).cell? ⟨b, 0, none⟩ = some v0 ∧ ((wr.setCell ⟨b, 0, none⟩ v0).setCell ⟨b, 1, none⟩ v1).cell? ⟨b, 1, none⟩ = some v1 := by
  have n3 : (⟨b, 1, none⟩ : Addr) ≠ ⟨b, 0, none⟩ := by intro e; injection e with _ e; omega
  have c1' : (wr.setCell ⟨b, 0, none⟩ v0).cell? ⟨b, 1, none⟩ = some y := by rw [World.cell?_setCell_other _ _ _ _ n3.symm]; exact c1
  exact ⟨by rw [World.cell?_setCell_other _ _ _ _ n3]; exact World.cell?_setCell_same _ _ _ c0, World.cell?_setCell_same _ _ _ c1'⟩

set_option maxRecDepth 100000 in
set_option maxHeartbeats 1000000 in
theorem resolve_any {P : Nat → Prop} (d : SVal) (g : Nat) (w : World) (j0 : Int) (y0 : Value) (h : RSV P w d (.int .u64 j0) y0) (hP : ∀ b, P b → b ≠ g) (hC : chainC (some ⟨g, 0, none⟩) d) (hc : w.cell? ⟨g, 0, none⟩ = some (.int .i64 0)) (hf : w.frozen? ⟨g, 0, none⟩ = false) :
    Calls Tryz.prog 96 #[.agg #[.int .u64 j0, y0]] w (ResEnd P g w (resolveS 100 d 0)) := by
  have hmf : ∀ (fn : Fn) (first cap : Array Value) (w : World), (Instr.makeFunc fn first cap).run Tryz.prog w = .ok (.func fn first cap) w := fun _ _ _ _ => rfl
  have mv := meth_valuer
  have mt := meth_throws
  have lg : g < w.heap.size := World.block_lt_of_cell? _ _ hc
  obtain ⟨i0, e0, hy0⟩ := rsv_shape h
  obtain ⟨Q, hQ⟩ : ∃ Q, Q = ResEnd P g w (resolveS 100 d 0) := ⟨_, rfl⟩
  rw [← hQ]
  have HQ := Lib.hid hQ
  have HR := Lib.hid h
  have HP := Lib.hid hP
  have HCC := Lib.hid hC
  have HC := Lib.hid (show CntEnd g 0 w w from ⟨hc, hf, But.refl _ _⟩)
  clear hQ h hP hC e0
  rcases hy0 with rfl | ⟨t, u, rfl⟩
  all_goals
    go_enter_defers Tryz.func96, Tryz.ntmps96
    go_wp2
    clear hc hf
    go_loopw [4] (fun a wr => ResRnd P d g w a wr) (fun a _ => 100 - (intOf a).toNat)
    case atStart => exact ⟨0, d, j0, _, j0, _, Nat.zero_le _, rfl, rfl, HR.out, HR.out, HCC.out, ((HC.out.alloc _).alloc _).alloc _, bx3_start _ _ _ _⟩
    case round =>
      obtain ⟨i, di, j, y, j1, y1, hi, rfl, hout, hdi, hd, hcc, hcnt, hbx⟩ := hrel
      have HO := Lib.hid hout
      have HD := Lib.hid hd
      have HDi := Lib.hid hdi
      have HCn := Lib.hid hcnt
      have HBx := Lib.hid hbx
      obtain ⟨a0, a1, a2, a3, a4, a5, a6, a7, a8, a9, hz⟩ := hbx
      have KP := Lib.hid (show KeepsOn P w wr from fun b hp hb => hcnt.2.2.block b hb (fun e => HP.out b hp (Option.some.inj e)))
      have gc := hcnt.1
      have gf := hcnt.2.1
      clear hout hd hcnt HR HCC HC
      by_cases hlt : i < 100
      · by_cases hk : di.kind = 9
        · cases di with
          | valuer n v c =>
            obtain ⟨rfl, hn1, hcv⟩ := hcc
            have HKD := Lib.hid (fun wx (hx : KeepsOn P w wx) => kind_any (.valuer n v (some ⟨g, 0, none⟩)) wx (.int .u64 j) y (hdi.turn hx (fun _ x _ => x)))
            unfold RSV at hdi
            obtain ⟨vx, vy, ej, rfl, hv⟩ := hdi
            obtain rfl : j = 0 := by injection ej
            obtain ⟨i', rfl, hvy⟩ := rsv_shape hv
            have HV := Lib.hid hv
            simp only [SVal.kind] at HKD
            clear hv ej hk HDi
            rcases hvy with rfl | ⟨t', u', rfl⟩
            · by_cases hn : n ≤ 1
              · go_wp2_with (first
                  | (go_at_call 133; (with_reducible refine (HKD.out _ KP.out).mono ?_); rintro e w1 ⟨rfl, hb1⟩; have HB1 := Lib.hid (HBx.out.below hb1); obtain ⟨b0, b1, b2, b3, b4, b5, b6, b7, b8, b9, hz1⟩ := HB1.out; have HC1 := Lib.hid (HCn.out.below hb1); clear a0 a1 a2 a3 a4 a5 a6 a7 a8 a9 gc gf)
                  | (go_at_call 144; refine (get_LogValuer _ _ (by decide) _ _).mono ?_; rintro e w2 ⟨rfl, hb2⟩; have HB2 := Lib.hid (HB1.out.below hb2); obtain ⟨c0, c1, c2, c3, c4, c5, c6, c7, c8, c9, hz2⟩ := HB2.out; have HC2 := Lib.hid (HC1.out.below hb2); have gc2 := HC2.out.1; have gf2 := HC2.out.2.1; clear b0 b1 b2 b3 b4 b5 b6 b7 b8 b9)
                  | (go_at_call 260; refine (lv_last g i w2 (by omega) (by omega) gc2 gf2 n i' _ (by first | exact .inl rfl | exact .inr ⟨_, _, rfl⟩) hn).mono ?_; rintro e w3 ⟨rfl, hcn3⟩; have HB3 := Lib.hid (HB2.out.but lg hcn3.2.2); obtain ⟨d0, d1, d2, d3, d4, d5, d6, d7, d8, d9, hz3⟩ := HB3.out; have HC3 := Lib.hid (HC2.out.trans hcn3); clear c0 c1 c2 c3 c4 c5 c6 c7 c8 c9 gc2 gf2))
                refine ⟨⟨i + 1, v, i', .nilIface, j1, y1, by omega, by push_cast; rfl, ?_, HV.out, HD.out, hcv, ?_, HB3.out.set⟩, ?_⟩
                · rw [HO.out, resolveS_step hlt, next_last hn]
                · push_cast; exact (HC3.out.setOwn lg _ (Nat.le_refl _) _).setOwn lg _ (Nat.le_refl _) _
                · simp only [intOf]; omega
              · go_wp2_with (first
                  | (go_at_call 133; (with_reducible refine (HKD.out _ KP.out).mono ?_); rintro e w1 ⟨rfl, hb1⟩; have HB1 := Lib.hid (HBx.out.below hb1); obtain ⟨b0, b1, b2, b3, b4, b5, b6, b7, b8, b9, hz1⟩ := HB1.out; have HC1 := Lib.hid (HCn.out.below hb1); clear a0 a1 a2 a3 a4 a5 a6 a7 a8 a9 gc gf)
                  | (go_at_call 144; refine (get_LogValuer _ _ (by decide) _ _).mono ?_; rintro e w2 ⟨rfl, hb2⟩; have HB2 := Lib.hid (HB1.out.below hb2); obtain ⟨c0, c1, c2, c3, c4, c5, c6, c7, c8, c9, hz2⟩ := HB2.out; have HC2 := Lib.hid (HC1.out.below hb2); have gc2 := HC2.out.1; have gf2 := HC2.out.2.1; clear b0 b1 b2 b3 b4 b5 b6 b7 b8 b9)
                  | (go_at_call 260; refine (lv_more g i w2 (by omega) (by omega) gc2 gf2 n i' _ (by first | exact .inl rfl | exact .inr ⟨_, _, rfl⟩) (by omega) hn1).mono ?_; rintro e w3 ⟨rfl, hcn3⟩; have HB3 := Lib.hid (HB2.out.but lg hcn3.2.2); obtain ⟨d0, d1, d2, d3, d4, d5, d6, d7, d8, d9, hz3⟩ := HB3.out; have HC3 := Lib.hid (HC2.out.trans hcn3); clear c0 c1 c2 c3 c4 c5 c6 c7 c8 c9 gc2 gf2))
                refine ⟨⟨i + 1, .valuer (n - 1) v (some ⟨g, 0, none⟩), 0, _, j1, y1, by omega, by push_cast; rfl, ?_, by unfold RSV; exact ⟨_, _, rfl, rfl, HV.out⟩, HD.out, ⟨rfl, by omega, hcv⟩, ?_, HB3.out.set⟩, ?_⟩
                · rw [HO.out, resolveS_step hlt, next_more (by omega)]
                · push_cast; exact (HC3.out.setOwn lg _ (Nat.le_refl _) _).setOwn lg _ (Nat.le_refl _) _
                · simp only [intOf]; omega
            · by_cases hn : n ≤ 1
              · go_wp2_with (first
                  | (go_at_call 133; (with_reducible refine (HKD.out _ KP.out).mono ?_); rintro e w1 ⟨rfl, hb1⟩; have HB1 := Lib.hid (HBx.out.below hb1); obtain ⟨b0, b1, b2, b3, b4, b5, b6, b7, b8, b9, hz1⟩ := HB1.out; have HC1 := Lib.hid (HCn.out.below hb1); clear a0 a1 a2 a3 a4 a5 a6 a7 a8 a9 gc gf)
                  | (go_at_call 144; refine (get_LogValuer _ _ (by decide) _ _).mono ?_; rintro e w2 ⟨rfl, hb2⟩; have HB2 := Lib.hid (HB1.out.below hb2); obtain ⟨c0, c1, c2, c3, c4, c5, c6, c7, c8, c9, hz2⟩ := HB2.out; have HC2 := Lib.hid (HC1.out.below hb2); have gc2 := HC2.out.1; have gf2 := HC2.out.2.1; clear b0 b1 b2 b3 b4 b5 b6 b7 b8 b9)
                  | (go_at_call 260; refine (lv_last g i w2 (by omega) (by omega) gc2 gf2 n i' _ (by first | exact .inl rfl | exact .inr ⟨_, _, rfl⟩) hn).mono ?_; rintro e w3 ⟨rfl, hcn3⟩; have HB3 := Lib.hid (HB2.out.but lg hcn3.2.2); obtain ⟨d0, d1, d2, d3, d4, d5, d6, d7, d8, d9, hz3⟩ := HB3.out; have HC3 := Lib.hid (HC2.out.trans hcn3); clear c0 c1 c2 c3 c4 c5 c6 c7 c8 c9 gc2 gf2))
                refine ⟨⟨i + 1, v, i', (.iface t' u'), j1, y1, by omega, by push_cast; rfl, ?_, HV.out, HD.out, hcv, ?_, HB3.out.set⟩, ?_⟩
                · rw [HO.out, resolveS_step hlt, next_last hn]
                · push_cast; exact (HC3.out.setOwn lg _ (Nat.le_refl _) _).setOwn lg _ (Nat.le_refl _) _
                · simp only [intOf]; omega
              · go_wp2_with (first
                  | (go_at_call 133; (with_reducible refine (HKD.out _ KP.out).mono ?_); rintro e w1 ⟨rfl, hb1⟩; have HB1 := Lib.hid (HBx.out.below hb1); obtain ⟨b0, b1, b2, b3, b4, b5, b6, b7, b8, b9, hz1⟩ := HB1.out; have HC1 := Lib.hid (HCn.out.below hb1); clear a0 a1 a2 a3 a4 a5 a6 a7 a8 a9 gc gf)
                  | (go_at_call 144; refine (get_LogValuer _ _ (by decide) _ _).mono ?_; rintro e w2 ⟨rfl, hb2⟩; have HB2 := Lib.hid (HB1.out.below hb2); obtain ⟨c0, c1, c2, c3, c4, c5, c6, c7, c8, c9, hz2⟩ := HB2.out; have HC2 := Lib.hid (HC1.out.below hb2); have gc2 := HC2.out.1; have gf2 := HC2.out.2.1; clear b0 b1 b2 b3 b4 b5 b6 b7 b8 b9)
                  | (go_at_call 260; refine (lv_more g i w2 (by omega) (by omega) gc2 gf2 n i' _ (by first | exact .inl rfl | exact .inr ⟨_, _, rfl⟩) (by omega) hn1).mono ?_; rintro e w3 ⟨rfl, hcn3⟩; have HB3 := Lib.hid (HB2.out.but lg hcn3.2.2); obtain ⟨d0, d1, d2, d3, d4, d5, d6, d7, d8, d9, hz3⟩ := HB3.out; have HC3 := Lib.hid (HC2.out.trans hcn3); clear c0 c1 c2 c3 c4 c5 c6 c7 c8 c9 gc2 gf2))
                refine ⟨⟨i + 1, .valuer (n - 1) v (some ⟨g, 0, none⟩), 0, _, j1, y1, by omega, by push_cast; rfl, ?_, by unfold RSV; exact ⟨_, _, rfl, rfl, HV.out⟩, HD.out, ⟨rfl, by omega, hcv⟩, ?_, HB3.out.set⟩, ?_⟩
                · rw [HO.out, resolveS_step hlt, next_more (by omega)]
                · push_cast; exact (HC3.out.setOwn lg _ (Nat.le_refl _) _).setOwn lg _ (Nat.le_refl _) _
                · simp only [intOf]; omega
          | throws s c =>
            obtain rfl := hcc
            have HKD := Lib.hid (fun wx (hx : KeepsOn P w wx) => kind_any (.throws s (some ⟨g, 0, none⟩)) wx (.int .u64 j) y (hdi.turn hx (fun _ x _ => x)))
            unfold RSV at hdi
            obtain ⟨ej, rfl⟩ := hdi
            obtain rfl : j = 0 := by injection ej
            simp only [SVal.kind] at HKD
            clear ej hk HDi
            go_wp2_with (first
              | (go_at_call 133; (with_reducible refine (HKD.out _ KP.out).mono ?_); rintro e w1 ⟨rfl, hb1⟩; have HB1 := Lib.hid (HBx.out.below hb1); obtain ⟨b0, b1, b2, b3, b4, b5, b6, b7, b8, b9, hz1⟩ := HB1.out; have HC1 := Lib.hid (HCn.out.below hb1); clear a0 a1 a2 a3 a4 a5 a6 a7 a8 a9 gc gf)
              | (go_at_call 144; refine (get_LogValuer _ _ (by decide) _ _).mono ?_; rintro e w2 ⟨rfl, hb2⟩; have HB2 := Lib.hid (HB1.out.below hb2); obtain ⟨c0, c1, c2, c3, c4, c5, c6, c7, c8, c9, hz2⟩ := HB2.out; have HC2 := Lib.hid (HC1.out.below hb2); have gc2 := HC2.out.1; have gf2 := HC2.out.2.1; clear b0 b1 b2 b3 b4 b5 b6 b7 b8 b9)
              | (go_at_call 259; refine (lv_throws g i w2 (by omega) (by omega) gc2 gf2 s).mono ?_; rintro e w3 ⟨rfl, hcn3⟩; have HB3 := Lib.hid (HB2.out.but lg hcn3.2.2); have HC3 := Lib.hid (HC2.out.trans hcn3); clear c0 c1 c2 c3 c4 c5 c6 c7 c8 c9 gc2 gf2))
            obtain ⟨d0, d1, d2, d3, d4, d5, d6, d7, d8, d9, hz3⟩ := HB3.out
            refine leaves_cons (f := 141) (args := #[.pointer (some ⟨w.heap.size + 1, 0, none⟩)]) (by simp) (by simp [go_sem]) ?_
            refine (resD_panicking (w.heap.size + 1) 9 (.string s) [] _ _ _ d4 d5 d6 d7).mono ?_
            rintro e u' w'' ⟨rfl, rfl, wm, hbm, hct, rfl⟩
            have HE := HC3.out.below hbm
            obtain ⟨r0, r1⟩ := set_result (w := w) (v0 := .int .u64 0) (v1 := .iface 247 (.pointer (some ⟨w3.heap.size, 0, none⟩))) ((keeps_of_below hbm).cell d4) ((keeps_of_below hbm).cell d5)
            simp only [settle, Leaves]
            simp [Leaves, settle, results, Tryz.results96, go_sem, r0, r1]
            have hq := HQ.out
            subst hq
            rw [HO.out, resolveS_pan hlt]
            refine ⟨⟨w3.heap.size, rfl, ?_, by omega⟩, ?_⟩
            · rw [World.cell?_setCell_other _ _ _ _ (by intro e; injection e with e; omega), World.cell?_setCell_other _ _ _ _ (by intro e; injection e with e; omega)]; exact hct
            · push_cast; exact (HE.setOwn lg _ (by simp) _).setOwn lg _ (by simp) _
          | num k n =>
            unfold RSV at hdi
            simp only [SVal.kind] at hk
            omega
          | str s => simp [SVal.kind] at hk
          | time t => simp [SVal.kind] at hk
          | group l => simp [SVal.kind] at hk
          | any g => simp [SVal.kind] at hk
        · have HKD := Lib.hid (fun wx (hx : KeepsOn P w wx) => kind_any di wx (.int .u64 j) y (hdi.turn hx (fun _ x _ => x)))
          obtain ⟨j', ej, hy⟩ := rsv_shape hdi
          have hkb : (di.kind != 9) = true := by simp [hk]
          clear hdi ej hcc
          rcases hy with rfl | ⟨t', u', rfl⟩
          · go_wp2_with (first
              | (go_at_call 133; (with_reducible refine (HKD.out _ KP.out).mono ?_); rintro e w1 ⟨rfl, hb1⟩; have HB1 := Lib.hid (HBx.out.below hb1); obtain ⟨b0, b1, b2, b3, b4, b5, b6, b7, b8, b9, hz1⟩ := HB1.out; have HC1 := Lib.hid (HCn.out.below hb1); clear a0 a1 a2 a3 a4 a5 a6 a7 a8 a9 gc gf))
            refine leaves_cons (f := 141) (args := #[.pointer (some ⟨w.heap.size + 1, 0, none⟩)]) (by simp) (by simp [go_sem]) ?_
            refine (resD_idle _ _).mono ?_
            rintro e u' w'' ⟨rfl, rfl, rfl⟩
            simp only [settle, Leaves]
            obtain ⟨r0, r1⟩ := set_result (w := w) (v0 := .int .u64 j) (v1 := .nilIface) b4 b5
            refine ⟨.agg #[.int .u64 j, .nilIface], ?_, ?_⟩
            · simp [results, Tryz.results96, go_sem, r0, r1]
            · have hq := HQ.out
              subst hq
              rw [HO.out, resolveS_val hlt hk]
              have hE := (HC1.out.setOwn lg ⟨w.heap.size + 1, 0, none⟩ (by simp) (.int .u64 j)).setOwn lg ⟨w.heap.size + 1, 1, none⟩ (by simp) .nilIface
              exact ⟨⟨_, _, rfl, HDi.out.turn (fun b hp hb => hE.2.2.block b hb (fun e => HP.out b hp (Option.some.inj e))) (fun _ x _ => x)⟩, hE⟩
          · go_wp2_with (first
              | (go_at_call 133; (with_reducible refine (HKD.out _ KP.out).mono ?_); rintro e w1 ⟨rfl, hb1⟩; have HB1 := Lib.hid (HBx.out.below hb1); obtain ⟨b0, b1, b2, b3, b4, b5, b6, b7, b8, b9, hz1⟩ := HB1.out; have HC1 := Lib.hid (HCn.out.below hb1); clear a0 a1 a2 a3 a4 a5 a6 a7 a8 a9 gc gf))
            refine leaves_cons (f := 141) (args := #[.pointer (some ⟨w.heap.size + 1, 0, none⟩)]) (by simp) (by simp [go_sem]) ?_
            refine (resD_idle _ _).mono ?_
            rintro e u' w'' ⟨rfl, rfl, rfl⟩
            simp only [settle, Leaves]
            obtain ⟨r0, r1⟩ := set_result (w := w) (v0 := .int .u64 j) (v1 := .iface t' u') b4 b5
            refine ⟨.agg #[.int .u64 j, .iface t' u'], ?_, ?_⟩
            · simp [results, Tryz.results96, go_sem, r0, r1]
            · have hq := HQ.out
              subst hq
              rw [HO.out, resolveS_val hlt hk]
              have hE := (HC1.out.setOwn lg ⟨w.heap.size + 1, 0, none⟩ (by simp) (.int .u64 j)).setOwn lg ⟨w.heap.size + 1, 1, none⟩ (by simp) (.iface t' u')
              exact ⟨⟨_, _, rfl, HDi.out.turn (fun b hp hb => hE.2.2.block b hb (fun e => HP.out b hp (Option.some.inj e))) (fun _ x _ => x)⟩, hE⟩
      · have hge : ¬ ((i : Int) < 100) := by omega
        clear hdi hcc HDi
        go_wp2_with (first
          | (go_at_call 101; refine (anyAll d _ _ _ (HD.out.turn KP.out (fun _ x _ => x))).mono ?_; rintro e w1 ⟨z1, rfl, hr1, hb1⟩; clear hr1; have HB1 := Lib.hid (HBx.out.below hb1); have HC1 := Lib.hid (HCn.out.below hb1); clear a0 a1 a2 a3 a4 a5 a6 a7 a8 a9 gc gf)
          | (go_at_call 145; refine (zzType_any _ _).mono ?_; rintro e w2 ⟨rfl, rfl⟩)
          | (go_at_call 142; refine (errNew_any _ _).mono ?_; rintro e w2 ⟨rfl, rfl⟩)
          | (go_at_call 100; refine (mk_err _ _).mono ?_; rintro e w3 ⟨rfl, hb3⟩; have HB3 := Lib.hid ((HB1.out.below ((Below.refl _ _).alloc (Nat.le_refl _) _)).below hb3); have HC3 := Lib.hid ((HC1.out.alloc _).below hb3); have HE3 := Lib.hid ((keeps_of_below hb3).cell (cell_new _ _ _ _ 0 _ rfl rfl)); obtain ⟨d0, d1, d2, d3, d4, d5, d6, d7, d8, d9, hz3⟩ := HB3.out))
        refine leaves_cons (f := 141) (args := #[.pointer (some ⟨w.heap.size + 1, 0, none⟩)]) (by simp) (by simp [go_sem]) ?_
        refine (resD_idle _ _).mono ?_
        rintro e u' w'' ⟨rfl, rfl, rfl⟩
        simp only [settle, Leaves]
        obtain ⟨r0, r1⟩ := set_result (w := w) (v0 := .int .u64 0) (v1 := .iface 247 (.pointer (some ⟨w1.heap.size, 0, none⟩))) d4 d5
        refine ⟨.agg #[.int .u64 0, .iface 247 (.pointer (some ⟨w1.heap.size, 0, none⟩))], ?_, ?_⟩
        · simp [results, Tryz.results96, go_sem, r0, r1]
        · have hq := HQ.out
          subst hq
          obtain rfl : i = 100 := by omega
          have hm : resolveS (100 - 100) di 100 = .much := rfl
          rw [HO.out, hm]
          have hz1 := HB1.out.2.2.2.2.2.2.2.2.2.2
          refine ⟨⟨w1.heap.size, rfl, ?_, by omega⟩, ?_⟩
          · rw [World.cell?_setCell_other _ _ _ _ (by intro e; injection e with e; omega), World.cell?_setCell_other _ _ _ _ (by intro e; injection e with e; omega)]; exact HE3.out
          · exact (HC3.out.setOwn lg _ (by simp) _).setOwn lg _ (by simp) _

end Go.Proofs.YtihhgnbgejjijaaGreatDoor.Va

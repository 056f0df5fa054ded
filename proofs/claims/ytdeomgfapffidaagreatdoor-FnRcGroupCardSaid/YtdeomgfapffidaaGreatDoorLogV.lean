/- The methods LogValue of the values that give others, and of those that panic: the walks. -/
import Derived.Test.YtdeomgfapffidaaGreatDoorBut
import Derived.Test.YtdeomgfapffidaaGreatDoorBox
import Derived.Test.YtdeomgfapffidaaGreatDoorOfD
namespace Go.Proofs.YtdeomgfapffidaaGreatDoor.Va
set_option linter.unusedVariables false
set_option linter.unusedSimpArgs false
open Go Go.RowKit

/-- What a call of LogValue leaves: the counter one more. -/
def CntEnd (g : Nat) (k : Int) (w w' : World) : Prop := w'.cell? ⟨g, 0, none⟩ = some (.int .i64 k) ∧ w'.frozen? ⟨g, 0, none⟩ = false ∧ But g w w'
def LvEnd (r : Value) (g : Nat) (k : Int) (w : World) (e : Ending) (w' : World) : Prop := e = .returned r ∧ CntEnd g (k + 1) w w'
def LvBad (s : ByteArray) (g : Nat) (k : Int) (w : World) (e : Ending) (w' : World) : Prop := e = .panicked [{ v := .iface 9 (.string s), recovered := false }] ∧ CntEnd g (k + 1) w w'

theorem cnt_set {g : Nat} {k j : Int} {w : World} (hc : w.cell? ⟨g, 0, none⟩ = some (.int .i64 k)) (hf : w.frozen? ⟨g, 0, none⟩ = false) : CntEnd g j w (w.setCell ⟨g, 0, none⟩ (.int .i64 j)) :=
  ⟨World.cell?_setCell_same w ⟨g, 0, none⟩ (.int .i64 j) hc, by rw [World.frozen?_setCell]; exact hf, (But.refl g w).set 0 _⟩
theorem CntEnd.below {g : Nat} {k : Int} {w w1 w2 : World} (h : CntEnd g k w w1) (hb : Below w1.heap.size w1 w2) : CntEnd g k w w2 := by
  have lg : g < w1.heap.size := World.block_lt_of_cell? _ _ h.1
  exact ⟨(keeps_of_below hb).cell h.1, (hb.frozen (p := ⟨g, 0, none⟩) lg).trans h.2.1, h.2.2.below hb⟩
theorem CntEnd.alloc {g : Nat} {k : Int} {w w1 : World} (h : CntEnd g k w w1) (o : Obj) : CntEnd g k w (w1.alloc o) := h.below ((Below.refl _ _).alloc (Nat.le_refl _) _)
theorem CntEnd.setOwn {g : Nat} {k : Int} {w w1 : World} (h : CntEnd g k w w1) (lg : g < w.heap.size) (p : Addr) (hp : w.heap.size ≤ p.block) (v : Value) : CntEnd g k w (w1.setCell p v) := by
  have hne : p ≠ ⟨g, 0, none⟩ := by intro e; subst e; exact absurd hp (Nat.not_le.2 lg)
  exact ⟨by rw [World.cell?_setCell_other _ _ _ _ hne]; exact h.1, by rw [World.frozen?_setCell]; exact h.2.1, h.2.2.setOwn p hp v⟩

section
variable (g : Nat) (k : Int) (w : World) (h0 : 0 ≤ k) (h1 : k ≤ 100) (hc : w.cell? ⟨g, 0, none⟩ = some (.int .i64 k)) (hf : w.frozen? ⟨g, 0, none⟩ = false)

set_option maxRecDepth 100000 in
set_option maxHeartbeats 400000 in
include h0 h1 hc hf in
theorem lv_throws (s : ByteArray) : Calls Tryz.prog 214 #[.agg #[.string s, .pointer (some ⟨g, 0, none⟩)]] w (LvBad s g k w) := by
  unfold LvBad
  have lg : g < w.heap.size := World.block_lt_of_cell? _ _ hc
  have HC := Lib.hid (cnt_set (j := k + 1) hc hf)
  go_enter Tryz.func214, Tryz.ntmps214
  go_wp2
  exact ⟨rfl, rfl, (HC.out.alloc _).alloc _⟩

set_option maxRecDepth 100000 in
set_option maxHeartbeats 400000 in
include h0 h1 hc hf in
theorem lv_last (n i : Int) (y : Value) (hy : y = .nilIface ∨ ∃ t u, y = .iface t u) (hn : n ≤ 1) : Calls Tryz.prog 215 #[.agg #[.int .u64 n, .int .u64 i, y, .pointer (some ⟨g, 0, none⟩)]] w (LvEnd (.agg #[.int .u64 i, y]) g k w) := by
  unfold LvEnd
  have lg : g < w.heap.size := World.block_lt_of_cell? _ _ hc
  have HC := Lib.hid (cnt_set (j := k + 1) hc hf)
  rcases hy with rfl | ⟨t, u, rfl⟩
  · go_enter Tryz.func215, Tryz.ntmps215
    go_wp2
    exact bodyPost_ret (v := .agg #[.int .u64 i, .nilIface]) (by simp [results, Tryz.results215, go_sem]) rfl ⟨rfl, (HC.out.alloc _).alloc _⟩
  · go_enter Tryz.func215, Tryz.ntmps215
    go_wp2
    exact bodyPost_ret (v := .agg #[.int .u64 i, .iface t u]) (by simp [results, Tryz.results215, go_sem]) rfl ⟨rfl, (HC.out.alloc _).alloc _⟩

set_option maxRecDepth 100000 in
set_option maxHeartbeats 400000 in
include h0 h1 hc hf in
theorem lv_more (n i : Int) (y : Value) (hy : y = .nilIface ∨ ∃ t u, y = .iface t u) (hn : 1 < n) (hn1 : n ≤ 18446744073709551615) : Calls Tryz.prog 215 #[.agg #[.int .u64 n, .int .u64 i, y, .pointer (some ⟨g, 0, none⟩)]] w
    (LvEnd (.agg #[.int .u64 0, .iface 144 (.agg #[.int .u64 (n - 1), .int .u64 i, y, .pointer (some ⟨g, 0, none⟩)])]) g k w) := by
  unfold LvEnd
  have lg : g < w.heap.size := World.block_lt_of_cell? _ _ hc
  have HC := Lib.hid (cnt_set (j := k + 1) hc hf)
  rcases hy with rfl | ⟨t, u, rfl⟩
  · go_enter Tryz.func215, Tryz.ntmps215
    go_wp2_with (go_at_call 47; refine (anyValue_valuer _ _ _ _ _).mono ?_; rintro e w2 ⟨rfl, hb2⟩; obtain ⟨hc2, hf2⟩ := bcell hb2; have hz2 := hb2.size; simp at hz2; have e20 : w.heap.size + 1 < w2.heap.size := (by omega); have HE := Lib.hid (((HC.out.alloc _).alloc _).below hb2))
    exact bodyPost_ret (v := .agg #[.int .u64 0, .iface 144 (.agg #[.int .u64 (n - 1), .int .u64 i, .nilIface, .pointer (some ⟨g, 0, none⟩)])]) (by simp [results, Tryz.results215, go_sem, hc2, hf2, e20]) rfl ⟨rfl, (HE.out.setOwn lg _ (by simp) _).setOwn lg _ (by simp) _⟩
  · go_enter Tryz.func215, Tryz.ntmps215
    go_wp2_with (go_at_call 47; refine (anyValue_valuer _ _ _ _ _).mono ?_; rintro e w2 ⟨rfl, hb2⟩; obtain ⟨hc2, hf2⟩ := bcell hb2; have hz2 := hb2.size; simp at hz2; have e20 : w.heap.size + 1 < w2.heap.size := (by omega); have HE := Lib.hid (((HC.out.alloc _).alloc _).below hb2))
    exact bodyPost_ret (v := .agg #[.int .u64 0, .iface 144 (.agg #[.int .u64 (n - 1), .int .u64 i, .iface t u, .pointer (some ⟨g, 0, none⟩)])]) (by simp [results, Tryz.results215, go_sem, hc2, hf2, e20]) rfl ⟨rfl, (HE.out.setOwn lg _ (by simp) _).setOwn lg _ (by simp) _⟩
end
end Go.Proofs.YtdeomgfapffidaaGreatDoor.Va

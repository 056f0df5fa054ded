/- The reader of levels: errors, and the deferred closure: the walks. -/
import Derived.Test.YtconeignnananaaDoorLvG
import Derived.Test.YtconeignnananaaDoorLvD
import Derived.Defers
import Derived.Deep.RegionWith
import Derived.Deep.RegionHeld3
import Derived.Shelf.Strconv.ErrVarAll
import Derived.Deep.DeepFit
import Derived.Lib.PrintData
import Derived.Stop.LaidErr
namespace Go.Proofs.YtconeignnananaaDoor.Lv
set_option linter.unusedVariables false
set_option linter.unusedSimpArgs false
open Go Go.Lib Go.RowKit

/-- But for block g all that was there is as it was in W. -/
abbrev But (g : Nat) (W w : World) : Prop := W.grownBy w (some g)
theorem But.refl (g : Nat) (W : World) : But g W W := ⟨rfl, rfl, rfl, Nat.le_refl _, fun _ _ _ => rfl⟩
theorem But.trans {g : Nat} {a b c : World} (h : But g a b) (k : But g b c) : But g a c :=
  ⟨k.os.trans h.os, k.tape.trans h.tape, k.output.trans h.output, Nat.le_trans h.size k.size, fun i hi hn => (k.block i (by have := h.size; omega) hn).trans (h.block i hi hn)⟩
theorem But.of_below {g : Nat} {W w : World} (h : Below W.heap.size W w) : But g W w := ⟨h.os, h.tape, h.output, h.size, fun i hi _ => h.block i hi⟩
theorem But.set {g : Nat} {W w : World} (h : But g W w) (o : Nat) (v : Value) : But g W (w.setCell ⟨g, o, none⟩ v) :=
  h.trans ⟨rfl, rfl, rfl, by simp, fun i hi hn => Below.heap_setCell _ _ _ _ (fun e => hn (by rw [e]))⟩
theorem But.drewN {g : Nat} {W w : World} (h : But g W w) (n : Nat) : But g W (w.drewN n) := ⟨h.os, h.tape, h.output, h.size, h.block⟩
theorem But.drew {g : Nat} {W w : World} (h : But g W w) : But g W w.drew := ⟨h.os, h.tape, h.output, h.size, h.block⟩
theorem But.cell {g : Nat} {W w : World} (h : But g W w) {b o : Nat} (hb : b < W.heap.size) (hn : b ≠ g) : w.cell? ⟨b, o, none⟩ = W.cell? ⟨b, o, none⟩ :=
  World.cell?_of_block (a := ⟨b, o, none⟩) (h.block b hb (fun e => hn (Option.some.inj e)))
theorem But.frozen {g : Nat} {W w : World} (h : But g W w) {b o : Nat} (hb : b < W.heap.size) (hn : b ≠ g) : w.frozen? ⟨b, o, none⟩ = W.frozen? ⟨b, o, none⟩ :=
  World.frozen?_of_block (a := ⟨b, o, none⟩) (h.block b hb (fun e => hn (Option.some.inj e)))

/-- A value of type error that is not nil, whose method Error gives a text and writes nothing that is there. -/
def Fault (W : World) (ev : Value) : Prop := ∃ (u : TypeId) (g : FuncId) (a : Addr) (txt : ByteArray), (u = 90 ∧ g = 129 ∨ u = 113 ∧ g = 132) ∧ ev = .iface u (.pointer (some a)) ∧ txt.size ≤ 1000000000000 ∧
  ∀ W', Below W.heap.size W W' → Calls Tryd.prog g #[.pointer (some a)] W' fun e w' => e = .returned (.string txt) ∧ Below W'.heap.size W' w'

theorem m90 (v : Option Addr) (W : World) : (method 265 90 (.pointer v) "Error").run Tryd.prog W = .ok (129, .pointer v) W := by kernel_rfl
theorem m113 (v : Option Addr) (W : World) : (method 265 113 (.pointer v) "Error").run Tryd.prog W = .ok (132, .pointer v) W := by kernel_rfl
theorem e129 (args : Array Value) (W : World) : (callFunc 129 args).run Tryd.prog W = .ok (.enter 129 args) W := by kernel_rfl
theorem e132 (args : Array Value) (W : World) : (callFunc 132 args).run Tryd.prog W = .ok (.enter 132 args) W := by kernel_rfl

theorem errText_any (a : Addr) (t : ByteArray) (w : World) (h : w.cell? a = some (.string t)) : Calls Tryd.prog 129 #[.pointer (some a)] w fun e w' => e = .returned (.string t) ∧ Below w.heap.size w w' := by
  go_enter Tryd.func129, Tryd.ntmps129
  go_wp2
  go_ret
  exact ⟨rfl, Below.refl _ _⟩

theorem fault_string {W : World} {a : Addr} {t : ByteArray} (ht : t.size ≤ 1000000000000) (h : W.cell? a = some (.string t)) : Fault W (.iface 90 (.pointer (some a))) :=
  ⟨90, 129, a, t, .inl ⟨rfl, rfl⟩, rfl, ht, fun W' hB => errText_any a t W' ((hB.cell (World.block_lt_of_cell? _ _ h)).trans h)⟩

/-- errors.New. -/
theorem new_any (s : ByteArray) (w : World) : Calls Tryd.prog 53 #[.string s] w fun e w' => e = .returned (.iface 90 (.pointer (some ⟨w.heap.size, 0, none⟩))) ∧ w' = w.alloc (.cells #[.string s] 92 (0, 0)) := by
  go_enter Tryd.func53, Tryd.ntmps53
  go_wp2
  go_ret
  exact ⟨rfl, rfl⟩

set_option maxHeartbeats 1000000 in
theorem late_fine (eb sb : Nat) (u : FrameMode) (w : World) (c0 : w.cell? ⟨eb, 0, none⟩ = some .nilIface) :
    CallsD Tryd.prog 52 #[.pointer (some ⟨eb, 0, none⟩), .pointer (some ⟨sb, 0, none⟩)] u w fun e u' w' => u' = u ∧ e = .returned (.tuple #[]) ∧ w' = w := by
  go_enter_d Tryd.func52, Tryd.ntmps52
  go_wp2
  go_end0
  exact ⟨rfl, rfl⟩

/-- The error of strconv.Atoi. -/
theorem fault_num {W : World} {N : Nat} {s t : ByteArray} {a : Addr} (hs : s.size ≤ 1000000) (ht : t.size ≤ 1000)
    (hN : W.heap[N]? = some (.cells #[.string ⟨#[65, 116, 111, 105]⟩, .string s, .iface 90 (.pointer (some a))] 134 (0, 0))) (ha : W.cell? a = some (.string t))
    (hT : PrintTabsAt 9 10 11 12 goPrintTabs W) (hU : Utf8Tabs 2 3 W) : Fault W (.iface 113 (.pointer (some ⟨N, 0, none⟩))) := by
  have hsz : (strOfNums (Lib.quoteZ goPrintTabs s)).size ≤ 10 * s.size + 2 := by rw [strOfNums_size]; exact Lib.quoteZ_length_le goPrintTabs s
  have c0 : W.cell? ⟨N, 0, none⟩ = some (.string "Atoi".toUTF8) := by simp [World.cell?, hN]; rfl
  have c1 : W.cell? ⟨N, 0 + 1, none⟩ = some (.string s) := by simp [World.cell?, hN]
  have c2 : W.cell? ⟨N, 0 + 2, none⟩ = some (.iface 90 (.pointer (some a))) := by simp [World.cell?, hN]
  have hlt : N < W.heap.size := World.block_lt_of_cell? _ _ c0
  have e4 : "Atoi".toUTF8.size = 4 := rfl
  have e1 : "strconv.".toUTF8.size = 8 := rfl
  have e2 : ": ".toUTF8.size = 2 := rfl
  have e3 : "parsing ".toUTF8.size = 8 := rfl
  refine ⟨113, 132, ⟨N, 0, none⟩, "strconv.".toUTF8 ++ "Atoi".toUTF8 ++ ": ".toUTF8 ++ "parsing ".toUTF8 ++ strOfNums (Lib.quoteZ goPrintTabs s) ++ ": ".toUTF8 ++ t, .inr ⟨rfl, rfl⟩, rfl, ?_, fun W' hB => ?_⟩
  · simp only [ByteArray.size_append]
    omega
  · exact Tryd.NumError_Error N 0 "Atoi".toUTF8 s (strOfNums (Lib.quoteZ goPrintTabs s)) t 90 (.pointer (some a)) 129 (.pointer (some a)) W'
      (((bcell hB).1 _ _ hlt).trans c0) (((bcell hB).1 _ _ hlt).trans c1) (((bcell hB).1 _ _ hlt).trans c2)
      (by omega)
      (fun W2 h => Tryd.strconv_Quote goPrintTabs s W2 (by omega) (printTabs_below (printTabs_below hT hB) h) (Utf8Tabs_below (Utf8Tabs_below hU hB) h))
      (m90 _) e129
      (fun W2 h => errText_any a t W2 ((h.cell (World.block_lt_of_cell? _ _ ((hB.cell (World.block_lt_of_cell? _ _ ha)).trans ha))).trans ((hB.cell (World.block_lt_of_cell? _ _ ha)).trans ha)))

theorem late_end {eb : Nat} {w w1 w2 : World} {old : Value} (v : Value) (o : Obj) (h1 : Below w.drew.heap.size w.drew w1) (h2 : Below w1.heap.size w1 w2) (g2 : w2.cell? ⟨eb, 0, none⟩ = some old) :
    ((w2.setCell ⟨eb, 0, none⟩ v).alloc o).cell? ⟨eb, 0, none⟩ = some v ∧ But eb w ((w2.setCell ⟨eb, 0, none⟩ v).alloc o) :=
  ⟨cell?_alloc_old o (World.cell?_setCell_same _ _ _ g2),
    (((((But.refl eb w).drew).trans (.of_below h1)).trans (.of_below h2)).set 0 v).trans (World.grownBy_alloc _ o (some eb))⟩

set_option maxRecDepth 100000 in
set_option maxHeartbeats 2000000 in
theorem late_bad (eb sb : Nat) (u : FrameMode) (w : World) (ev : Value) (s : ByteArray) (hs : s.size ≤ 1000000) (hne : eb ≠ sb) (c0 : w.cell? ⟨eb, 0, none⟩ = some ev) (c1 : w.cell? ⟨sb, 0, none⟩ = some (.string s))
    (f0 : w.frozen? ⟨eb, 0, none⟩ = false) (hF : Fault w ev) (hT : PrintTabsAt 9 10 11 12 goPrintTabs w) (hU : Utf8Tabs 2 3 w) :
    CallsD Tryd.prog 52 #[.pointer (some ⟨eb, 0, none⟩), .pointer (some ⟨sb, 0, none⟩)] u w fun e u' w' => u' = u ∧ e = .returned (.tuple #[]) ∧ ∃ p, w'.cell? ⟨eb, 0, none⟩ = some (.iface 90 (.pointer p)) ∧ But eb w w' := by
  obtain ⟨t0, g, a, txt, hg, rfl, htx, hE⟩ := hF
  have heb : eb < w.heap.size := World.block_lt_of_cell? _ _ c0
  have hsb : sb < w.heap.size := World.block_lt_of_cell? _ _ c1
  have cQ := fun W h1 h2 => Tryd.strconv_Quote goPrintTabs s W (by omega) h1 h2
  have hsz : (strOfNums (Lib.quoteZ goPrintTabs s)).size ≤ 10 * s.size + 2 := by rw [strOfNums_size]; exact Lib.quoteZ_length_le goPrintTabs s
  generalize strOfNums (Lib.quoteZ goPrintTabs s) = q at cQ hsz
  have CQ := Lib.hid cQ
  have CE := Lib.hid hE
  have HT := Lib.hid hT
  have HU := Lib.hid hU
  clear cQ hE hT hU
  have n1 : ¬ 9223372036854775807 < 19 + q.size := by omega
  have n2 : ¬ 9223372036854775807 < 19 + q.size + 2 := by omega
  have n3 : ¬ 9223372036854775807 < 19 + q.size + 2 + txt.size := by omega
  have m0 := m90
  have m1 := m113
  rcases hg with ⟨rfl, rfl⟩ | ⟨rfl, rfl⟩
  all_goals
    go_enter_d Tryd.func52, Tryd.ntmps52
    go_wp2
    go_region_with (first
      | (go_at_call 54; refine (CQ.out _ (by first | exact HT.out) (by first | exact HU.out)).mono ?_; rintro e w1 ⟨rfl, hb1⟩; obtain ⟨d0, d1⟩ := bcell hb1; have k0 := (d0 _ 0 heb).trans c0; have k1 := (d0 _ 0 hsb).trans c1; have k2 := (d1 _ 0 heb).trans f0; have Hb1 := Lib.hid hb1; clear d0 d1 hb1)
      | ((first | go_at_call 129 | go_at_call 132); refine (CE.out _ ⟨Hb1.out.os, Hb1.out.tape, Hb1.out.output, Hb1.out.size, Hb1.out.block⟩).mono ?_; rintro e w2 ⟨rfl, hb2⟩; have l1 : eb < w1.heap.size := (Nat.lt_of_lt_of_le heb Hb1.out.size); have l2 : eb < w2.heap.size := (Nat.lt_of_lt_of_le l1 hb2.size); have f2 := ((bcell hb2).2 _ 0 l1).trans k2; have g2 := ((bcell hb2).1 _ 0 l1).trans k0; have x2 : eb ≠ w2.heap.size := (by omega); have Hb2 := Lib.hid hb2; clear hb2)
      | (go_at_call 53; refine (new_any _ _).mono ?_; rintro e w3 ⟨rfl, rfl⟩))
    all_goals
      go_end0
      exact ⟨rfl, _, late_end _ _ Hb1.out Hb2.out g2⟩

end Go.Proofs.YtconeignnananaaDoor.Lv

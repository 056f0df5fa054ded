/- impl.AttrEqual: its closure, and impl.caught of it. -/
import Derived.Test.YtcgdnjigocknbaaDoorIEqV
namespace Go.Proofs.YtcgdnjigocknbaaDoor.Va
set_option linter.unusedVariables false
set_option linter.unusedSimpArgs false
open Go Go.RowKit

/-- An Attr of package slog lies in a box of its own. -/
def SBox (w : World) (b : Nat) (key : ByteArray) (x y : Value) : Prop := w.cell? ⟨b, 0, none⟩ = some (.string key) ∧ w.cell? ⟨b, 1, none⟩ = some x ∧ w.cell? ⟨b, 2, none⟩ = some y
theorem SBox.keep {w w' : World} {b : Nat} {key : ByteArray} {x y : Value} (h : SBox w b key x y) (hk : Keeps w w') : SBox w' b key x y := ⟨hk.cell h.1, hk.cell h.2.1, hk.cell h.2.2⟩

/-- The second cell of a value of package slog. -/
def Shape (y : Value) : Prop := y = .nilIface ∨ ∃ t u, y = .iface t u

set_option maxRecDepth 100000 in
set_option maxHeartbeats 400000 in
theorem attrClos_ok (r1 : Bool) (w : World) (key key' : ByteArray) (i i' : Int) (y y' : Value) (hy : Shape y) (hy' : Shape y') (ba bb g : Nat)
    (cE : ∀ wx, Keeps w wx → Calls Tryd.prog 28 #[.agg #[.string key, .int .u64 i, y], .agg #[.string key', .int .u64 i', y']] wx fun e w' => e = .returned (.bool r1) ∧ Below wx.heap.size wx w')
    (hA : SBox w ba key (.int .u64 i) y) (hB : SBox w bb key' (.int .u64 i') y') (c0 : w.cell? ⟨g, 0, none⟩ = some (.bool false)) (f0 : w.frozen? ⟨g, 0, none⟩ = false) :
    Calls Tryd.prog 27 #[.pointer (some ⟨ba, 0, none⟩), .pointer (some ⟨bb, 0, none⟩), .pointer (some ⟨g, 0, none⟩)] w fun e w' => e = .returned (.tuple #[]) ∧ w'.cell? ⟨g, 0, none⟩ = some (.bool r1) ∧ w'.frozen? ⟨g, 0, none⟩ = false ∧ But g w w' := by
  have lg : g < w.heap.size := World.block_lt_of_cell? _ _ c0
  obtain ⟨Q, hQ⟩ : ∃ Q : Ending → World → Prop, Q = fun e w' => e = .returned (.tuple #[]) ∧ w'.cell? ⟨g, 0, none⟩ = some (.bool r1) ∧ w'.frozen? ⟨g, 0, none⟩ = false ∧ But g w w' := ⟨_, rfl⟩
  rw [← hQ]
  have HQ := Lib.hid hQ
  have CE := Lib.hid cE
  obtain ⟨a0, a1, a2⟩ := hA
  obtain ⟨b0, b1, b2⟩ := hB
  clear cE hQ
  rcases hy with rfl | ⟨t, u, rfl⟩ <;> rcases hy' with rfl | ⟨t', u', rfl⟩
  all_goals
    go_enter Tryd.func27, Tryd.ntmps27
    go_wp2_with (go_at_call 28; (refine (CE.out _ (Keeps.refl _)).mono ?_); rintro e w3 ⟨rfl, hb3⟩; have c3 := ((bcell hb3).1 g 0 lg).trans c0; have f3 := ((bcell hb3).2 g 0 lg).trans f0)
    go_end0
    rw [HQ.out]
    exact ⟨rfl, eqClos_end _ hb3 lg c0 f0⟩

set_option maxRecDepth 100000 in
set_option maxHeartbeats 400000 in
theorem attrClos_bad (w : World) (key key' : ByteArray) (i i' : Int) (y y' : Value) (hy : Shape y) (hy' : Shape y') (ba bb g : Nat)
    (cE : ∀ wx, Keeps w wx → Calls Tryd.prog 28 #[.agg #[.string key, .int .u64 i, y], .agg #[.string key', .int .u64 i', y']] wx fun e w' => (∃ t v, e = .panicked [{ v := .iface t v, recovered := false }]) ∧ Below wx.heap.size wx w')
    (hA : SBox w ba key (.int .u64 i) y) (hB : SBox w bb key' (.int .u64 i') y') :
    Calls Tryd.prog 27 #[.pointer (some ⟨ba, 0, none⟩), .pointer (some ⟨bb, 0, none⟩), .pointer (some ⟨g, 0, none⟩)] w fun e w' => (∃ t v, e = .panicked [{ v := .iface t v, recovered := false }]) ∧ Below w.heap.size w w' := by
  obtain ⟨Q, hQ⟩ : ∃ Q : Ending → World → Prop, Q = fun e w' => (∃ t v, e = .panicked [{ v := .iface t v, recovered := false }]) ∧ Below w.heap.size w w' := ⟨_, rfl⟩
  rw [← hQ]
  have HQ := Lib.hid hQ
  have CE := Lib.hid cE
  obtain ⟨a0, a1, a2⟩ := hA
  obtain ⟨b0, b1, b2⟩ := hB
  clear cE hQ
  rcases hy with rfl | ⟨t, u, rfl⟩ <;> rcases hy' with rfl | ⟨t', u', rfl⟩
  all_goals
    go_enter Tryd.func27, Tryd.ntmps27
    go_wp2_with (go_at_call 28; (refine (CE.out _ (Keeps.refl _)).mono ?_); rintro e w3 ⟨⟨tx, vx, rfl⟩, hb3⟩)
    exact ⟨rfl, by rw [HQ.out]; exact ⟨⟨_, _, rfl⟩, hb3⟩⟩

/-- impl.caught of the comparison of attributes, at its boxes. -/
theorem caughtAttr_any (r : Bool × Bool) (W : World) (key key' : ByteArray) (i i' : Int) (y y' : Value) (hy : Shape y) (hy' : Shape y') (ba bb g : Nat)
    (cE : ∀ wx, Keeps W wx → Calls Tryd.prog 28 #[.agg #[.string key, .int .u64 i, y], .agg #[.string key', .int .u64 i', y']] wx (EqEnd r wx))
    (hA : SBox W ba key (.int .u64 i) y) (hB : SBox W bb key' (.int .u64 i') y') (c0 : W.cell? ⟨g, 0, none⟩ = some (.bool false)) (f0 : W.frozen? ⟨g, 0, none⟩ = false) :
    Calls Tryd.prog 23 #[.func (.func 27) #[] #[.pointer (some ⟨ba, 0, none⟩), .pointer (some ⟨bb, 0, none⟩), .pointer (some ⟨g, 0, none⟩)]] W (CmpEnd r g W) := by
  have lg : g < W.heap.size := World.block_lt_of_cell? _ _ c0
  have hk : Keeps W (W.alloc (.cells #[.bool false] 4)) := keeps_alloc _ _
  have hkb : Below W.heap.size W (W.alloc (.cells #[.bool false] 4)) := (Below.refl _ _).alloc (Nat.le_refl _) _
  have c1 := (hkb.cell (p := ⟨g, 0, none⟩) lg).trans c0
  have f1 := (hkb.frozen (p := ⟨g, 0, none⟩) lg).trans f0
  obtain ⟨r1, r2⟩ := r
  cases r2 with
  | false =>
    refine (caught_ok_attr _ W (fun wx w' => w'.cell? ⟨g, 0, none⟩ = some (.bool r1) ∧ w'.frozen? ⟨g, 0, none⟩ = false ∧ But g wx w') ?_).mono ?_
    · rintro wx rfl
      refine (attrClos_ok r1 _ key key' i i' y y' hy hy' ba bb g (fun wx hx => (cE wx (hk.trans hx)).mono fun e w' hh => ?_) (hA.keep hk) (hB.keep hk) c1 f1).mono ?_
      · rcases hh with ⟨⟨_, hh⟩ | ⟨hh, _⟩, hb⟩
        · exact ⟨hh, hb⟩
        · cases hh
      · rintro e w' ⟨he, h1, h2, h3⟩
        exact ⟨he, ⟨h1, h2, h3⟩, own_box lg h3⟩
    · rintro e w' ⟨rfl, wm, ⟨h1, h2, h3⟩, rfl⟩
      exact cmp_ok lg h1 h2 h3
  | true =>
    refine (caught_bad_attr _ W (fun wx w' => Below wx.heap.size wx w') ?_).mono ?_
    · rintro wx rfl
      refine (attrClos_bad _ key key' i i' y y' hy hy' ba bb g (fun wx hx => (cE wx (hk.trans hx)).mono fun e w' hh => ?_) (hA.keep hk) (hB.keep hk)).mono ?_
      · rcases hh with ⟨⟨hh, _⟩ | ⟨_, hh⟩, hb⟩
        · cases hh
        · exact ⟨hh, hb⟩
      · rintro e w' ⟨he, h1⟩
        exact ⟨he, h1, own_box lg (But.of_below h1)⟩
    · rintro e w' ⟨rfl, wm, h1, rfl⟩
      exact cmp_bad lg c0 f0 h1

end Go.Proofs.YtcgdnjigocknbaaDoor.Va

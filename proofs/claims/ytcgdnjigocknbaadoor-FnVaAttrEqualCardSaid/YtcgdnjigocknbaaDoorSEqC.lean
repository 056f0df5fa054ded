/- When package slog has two attributes be equal (Attr.Equal), and groups. -/
import Derived.Test.YtcgdnjigocknbaaDoorSEqB
namespace Go.Proofs.YtcgdnjigocknbaaDoor.Va
set_option linter.unusedVariables false
set_option linter.unusedSimpArgs false
open Go Go.RowKit

/- No counter of calls in a value. -/
mutual
def sQuiet : SVal → Prop
  | .group l => l.len ≤ 140737488355328 ∧ sQuietAll l
  | .throws _ c => c = none
  | _ => True
def sQuietAll : SAttrs → Prop
  | .nil => True
  | .cons _ v r => sQuiet v ∧ sQuietAll r
end

/-- The contract of Value.Equal, for a first value. -/
def SEqV (d : SVal) : Prop := ∀ (d' : SVal) (P P' : Nat → Prop) (w : World) (x y x' y' : Value), (∀ b, P b → ¬ P' b) → sQuiet d → sQuiet d' → RSV P w d x y → RSV P' w d' x' y' →
  Calls Tryd.prog 26 #[.agg #[x, y], .agg #[x', y']] w (EqEnd (sEqual d d') w)

def sAttrEqual (key : ByteArray) (d : SVal) (key' : ByteArray) (d' : SVal) : Bool × Bool := if key ≠ key' then (false, false) else sEqual d d'

set_option maxRecDepth 100000 in
set_option maxHeartbeats 400000 in
theorem attrS_val (key key' : ByteArray) (d d' : SVal) (ih : SEqV d) {P P' : Nat → Prop} (hd : ∀ b, P b → ¬ P' b) (hq : sQuiet d) (hq' : sQuiet d') (w : World) (x y x' y' : Value) (h : RSV P w d x y) (h' : RSV P' w d' x' y') :
    Calls Tryd.prog 28 #[.agg #[.string key, x, y], .agg #[.string key', x', y']] w (EqEnd (sAttrEqual key d key' d') w) := by
  have cE := fun wx (hx : Keeps w wx) => ih d' P P' wx x y x' y' hd hq hq' (h.keep hx) (h'.keep hx)
  obtain ⟨Q, hQ⟩ : ∃ Q, Q = EqEnd (sAttrEqual key d key' d') w := ⟨_, rfl⟩
  rw [← hQ]
  have HQ := Lib.hid hQ
  by_cases hk : key = key'
  · subst hk
    have e : sAttrEqual key d key d' = sEqual d d' := by simp [sAttrEqual]
    rw [e] at HQ
    generalize sEqual d d' = r at cE HQ
    obtain ⟨r1, r2⟩ := r
    cases r2 with
    | false =>
      have cF : ∀ wx, Keeps w wx → Calls Tryd.prog 26 #[.agg #[x, y], .agg #[x', y']] wx fun e w' => e = .returned (.bool r1) ∧ Below wx.heap.size wx w' := fun wx hx => (cE wx hx).mono fun e w' hh => by
        rcases hh with ⟨⟨_, hh⟩ | ⟨hh, _⟩, hb⟩
        · exact ⟨hh, hb⟩
        · cases hh
      have CF := Lib.hid cF
      clear cE cF h h' hq hq' ih hQ e hd
      go_enter Tryd.func28, Tryd.ntmps28
      go_wp2_with (go_at_call 26; refine (CF.out _ (keeps_of_below (by repeat' (first | with_reducible assumption | with_reducible exact Below.refl _ _ | with_reducible refine Below.setCell ?_ ?_ _ | with_reducible refine Below.alloc ?_ ?_ _ | with_reducible refine Below.drew ?_ | with_reducible refine below_drewN ?_ _ | omega | (simp; done) | (simp; omega))))).mono ?_; rintro e w1 ⟨rfl, hb1⟩; have hB1 := Lib.hid (keeps_below (show Below w.heap.size w _ from (by repeat' (first | with_reducible assumption | with_reducible exact Below.refl _ _ | with_reducible refine Below.setCell ?_ ?_ _ | with_reducible refine Below.alloc ?_ ?_ _ | with_reducible refine Below.drew ?_ | with_reducible refine below_drewN ?_ _ | omega | (simp; done) | (simp; omega)))) hb1))
      rw [HQ.out]
      exact ⟨.inl ⟨rfl, rfl⟩, hB1.out⟩
    | true =>
      have cF : ∀ wx, Keeps w wx → Calls Tryd.prog 26 #[.agg #[x, y], .agg #[x', y']] wx fun e w' => (∃ t v, e = .panicked [{ v := .iface t v, recovered := false }]) ∧ Below wx.heap.size wx w' := fun wx hx => (cE wx hx).mono fun e w' hh => by
        rcases hh with ⟨⟨hh, _⟩ | ⟨_, hh⟩, hb⟩
        · cases hh
        · exact ⟨hh, hb⟩
      have CF := Lib.hid cF
      clear cE cF h h' hq hq' ih hQ e hd
      go_enter Tryd.func28, Tryd.ntmps28
      go_wp2_with (go_at_call 26; refine (CF.out _ (keeps_of_below (by repeat' (first | with_reducible assumption | with_reducible exact Below.refl _ _ | with_reducible refine Below.setCell ?_ ?_ _ | with_reducible refine Below.alloc ?_ ?_ _ | with_reducible refine Below.drew ?_ | with_reducible refine below_drewN ?_ _ | omega | (simp; done) | (simp; omega))))).mono ?_; rintro e w1 ⟨⟨t, v, rfl⟩, hb1⟩; have hB1 := Lib.hid (keeps_below (show Below w.heap.size w _ from (by repeat' (first | with_reducible assumption | with_reducible exact Below.refl _ _ | with_reducible refine Below.setCell ?_ ?_ _ | with_reducible refine Below.alloc ?_ ?_ _ | with_reducible refine Below.drew ?_ | with_reducible refine below_drewN ?_ _ | omega | (simp; done) | (simp; omega)))) hb1))
      rw [HQ.out]
      exact ⟨rfl, .inr ⟨rfl, _, _, rfl⟩, hB1.out⟩
  · have hb : (key.toList == key'.toList) = false := by rw [toList_beq]; simp [hk]
    have e : sAttrEqual key d key' d' = (false, false) := by simp [sAttrEqual, hk]
    rw [e] at HQ
    clear cE h h' hq hq' ih hQ e hk hd
    go_enter Tryd.func28, Tryd.ntmps28
    go_wp2_with fail
    rw [HQ.out]
    exact ⟨.inl ⟨rfl, rfl⟩, (by repeat' (first | with_reducible assumption | with_reducible exact Below.refl _ _ | with_reducible refine Below.setCell ?_ ?_ _ | with_reducible refine Below.alloc ?_ ?_ _ | with_reducible refine Below.drew ?_ | with_reducible refine below_drewN ?_ _ | omega | (simp; done) | (simp; omega)))⟩

theorem groupOf_any (i : Int) (A : Option Addr) (len cap : Nat) (w : World) : Calls Tryd.prog 59 #[.agg #[.int .u64 i, .iface 96 (.slice A len cap)]] w fun e w' => e = .returned (.slice A len cap) ∧ Below w.heap.size w w' := by
  go_enter Tryd.func59, Tryd.ntmps59
  go_wp2
  go_ret
  exact ⟨rfl, (by repeat' (first | with_reducible assumption | with_reducible exact Below.refl _ _ | with_reducible refine Below.setCell ?_ ?_ _ | with_reducible refine Below.alloc ?_ ?_ _ | with_reducible refine Below.drew ?_ | with_reducible refine below_drewN ?_ _ | omega | (simp; done) | (simp; omega)))⟩

end Go.Proofs.YtcgdnjigocknbaaDoor.Va

/- When package slog has two values be equal: Go values of any type by '=='. -/
import Derived.Test.YtcgdnjigocknbaaDoorEqFacts
import Derived.Test.YtcgdnjigocknbaaDoorSMem
namespace Go.Proofs.YtcgdnjigocknbaaDoor.Va
set_option linter.unusedVariables false
set_option linter.unusedSimpArgs false
open Go Go.RowKit

def gEq : GAny → GAny → Bool
  | .nil, .nil => true
  | .err s, .err s' => decide (s = s')
  | .stringer s, .stringer s' => decide (s = s')
  | .text s, .text s' => decide (s = s')
  | .fails s, .fails s' => decide (s = s')
  | .number n, .number n' => decide (n = n')
  | .level n, .level n' => decide (n = n')
  | .kind n, .kind n' => decide (n = n')
  | .appender s t, .appender s' t' => decide (s = s') && decide (t = t')
  | .lacks s, .lacks s' => decide (s = s')
  | .panics s, .panics s' => decide (s = s')
  | .pointer, .pointer => true
  | .nosource, .nosource => true
  | .both s t, .both s' t' => decide (s = s') && decide (t = t')
  | _, _ => false
def gBad : GAny → GAny → Bool
  | .bytes _, .bytes _ => true
  | _, _ => false

/-- The type of a Go value; none: nil. -/
def tyOf : GAny → Option Nat
  | .nil => none
  | .err _ => some 111
  | .stringer _ => some 112
  | .bytes _ => some 113
  | .text _ => some 114
  | .fails _ => some 115
  | .number _ => some 116
  | .level _ => some 117
  | .kind _ => some 109
  | .appender _ _ => some 119
  | .lacks _ => some 120
  | .panics _ => some 121
  | .pointer => some 122
  | .source _ _ _ => some 123
  | .nosource => some 123
  | .both _ _ => some 127
  | .made _ => some 122

theorem any_shape {P : Nat → Prop} {w : World} : ∀ {g : GAny} {v : Value}, RAny P w g v → (g = .nil ∧ v = .nilIface) ∨ (∃ t x, tyOf g = some t ∧ v = .iface t x)
  | .nil, v, h => .inl ⟨rfl, h⟩
  | .err s, v, h => .inr ⟨_, _, rfl, h⟩
  | .stringer s, v, h => .inr ⟨_, _, rfl, h⟩
  | .bytes s, v, h => by obtain ⟨A, len, cap, e, _⟩ := h; exact .inr ⟨_, _, rfl, e⟩
  | .text s, v, h => .inr ⟨_, _, rfl, h⟩
  | .fails s, v, h => .inr ⟨_, _, rfl, h⟩
  | .number n, v, h => .inr ⟨_, _, rfl, h⟩
  | .level n, v, h => .inr ⟨_, _, rfl, h⟩
  | .kind n, v, h => .inr ⟨_, _, rfl, h⟩
  | .appender s t, v, h => .inr ⟨_, _, rfl, h⟩
  | .lacks s, v, h => .inr ⟨_, _, rfl, h⟩
  | .panics s, v, h => .inr ⟨_, _, rfl, h⟩
  | .pointer, v, h => .inr ⟨_, _, rfl, h⟩
  | .source f s n, v, h => by obtain ⟨b, e, _⟩ := h; exact .inr ⟨_, _, rfl, e⟩
  | .nosource, v, h => .inr ⟨_, _, rfl, h⟩
  | .both s t, v, h => .inr ⟨_, _, rfl, h⟩
  | .made _, _, h => h.elim

/-- What '==' of two Go values comes to. -/
def AnyEnd (g g' : GAny) (v v' : Value) (w : World) : Prop :=
  (gBad g g' = false ∧ (binOp .eql 20 v v').run Tryd.prog w = .ok (.bool (gEq g g')) w) ∨ (gBad g g' = true ∧ ∃ t x, (binOp .eql 20 v v').run Tryd.prog w = .halt (.panic (.iface t x)) w)

theorem any_ne {P P' : Nat → Prop} {w : World} {g g' : GAny} {v v' : Value} (h : RAny P w g v) (h' : RAny P' w g' v') (ht : tyOf g ≠ tyOf g') : AnyEnd g g' v v' w := by
  have hb : gBad g g' = false ∧ gEq g g' = false := by
    cases g <;> cases g' <;> first | exact ⟨rfl, rfl⟩ | exact absurd rfl ht
  refine .inl ⟨hb.1, ?_⟩
  rw [hb.2]
  rcases any_shape h with ⟨rfl, rfl⟩ | ⟨t, x, e, rfl⟩
  · rcases any_shape h' with ⟨rfl, rfl⟩ | ⟨t', x', e', rfl⟩
    · exact absurd rfl ht
    · exact Facts.eqNilL _ _ w
  · rcases any_shape h' with ⟨rfl, rfl⟩ | ⟨t', x', e', rfl⟩
    · exact Facts.eqNilR _ _ w
    · exact Facts.eqNe _ _ _ _ w (fun e2 => ht (by rw [e, e', e2]))

theorem any_eq {P P' : Nat → Prop} {w : World} (hd : ∀ b, P b → ¬ P' b) {g g' : GAny} {v v' : Value} (h : RAny P w g v) (h' : RAny P' w g' v') : AnyEnd g g' v v' w := by
  by_cases ht : tyOf g = tyOf g'
  · cases g <;> cases g' <;> first | (exfalso; simp [tyOf] at ht; done) | skip
    · rw [show v = _ from h, show v' = _ from h']; exact .inl ⟨rfl, Facts.eqNil w⟩
    · rw [show v = _ from h, show v' = _ from h']; exact .inl ⟨rfl, Facts.eqZzError _ _ w⟩
    · rw [show v = _ from h, show v' = _ from h']; exact .inl ⟨rfl, Facts.eqZzStringer _ _ w⟩
    · obtain ⟨A, len, cap, rfl, _⟩ := h
      obtain ⟨A', len', cap', rfl, _⟩ := h'
      exact .inr ⟨rfl, Facts.eqBytes _ _ w⟩
    · rw [show v = _ from h, show v' = _ from h']; exact .inl ⟨rfl, Facts.eqZzText _ _ w⟩
    · rw [show v = _ from h, show v' = _ from h']; exact .inl ⟨rfl, Facts.eqZzFails _ _ w⟩
    · rw [show v = _ from h, show v' = _ from h']; exact .inl ⟨rfl, Facts.eqNZzNumber _ _ w⟩
    · rw [show v = _ from h, show v' = _ from h']; exact .inl ⟨rfl, Facts.eqNLevel _ _ w⟩
    · rw [show v = _ from h, show v' = _ from h']; exact .inl ⟨rfl, Facts.eqNkind _ _ w⟩
    · rw [show v = _ from h, show v' = _ from h']; exact .inl ⟨rfl, Facts.eqZzAppender _ _ _ _ w⟩
    · rw [show v = _ from h, show v' = _ from h']; exact .inl ⟨rfl, Facts.eqZzLacks _ _ w⟩
    · rw [show v = _ from h, show v' = _ from h']; exact .inl ⟨rfl, Facts.eqZzPanics _ _ w⟩
    · rw [show v = _ from h, show v' = _ from h']; exact .inl ⟨rfl, Facts.eqPointer w⟩
    · exact h'.elim
    · obtain ⟨b, rfl, ⟨hb, hh⟩, _⟩ := h
      obtain ⟨b', rfl, ⟨hb', hh'⟩, _⟩ := h'
      exact .inl ⟨rfl, Facts.eqSource w (fun e => hd b hb (by rw [e]; exact hb')) hh hh'⟩
    · obtain ⟨b, rfl, _⟩ := h
      rw [show v' = _ from h']; exact .inl ⟨rfl, Facts.eqSourceSN _ w⟩
    · obtain ⟨b, rfl, _⟩ := h'
      rw [show v = _ from h]; exact .inl ⟨rfl, Facts.eqSourceNS _ w⟩
    · rw [show v = _ from h, show v' = _ from h']; exact .inl ⟨rfl, Facts.eqSourceNN w⟩
    · rw [show v = _ from h, show v' = _ from h']; exact .inl ⟨rfl, Facts.eqZzBoth _ _ _ _ w⟩
    · exact h.elim
    · exact h.elim
  · exact any_ne h h' ht

end Go.Proofs.YtcgdnjigocknbaaDoor.Va

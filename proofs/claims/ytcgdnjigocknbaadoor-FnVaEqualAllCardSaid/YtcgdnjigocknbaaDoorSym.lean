/- What package slog has be equal does not hang on the order, carries over a middle value, and is the same in groups. Plain Lean. -/
import Derived.Test.YtcgdnjigocknbaaDoorPlain
import Derived.Test.YtcgdnjigocknbaaDoorFloat
namespace Go.Proofs.YtcgdnjigocknbaaDoor.Va
set_option linter.unusedVariables false
set_option linter.unusedSimpArgs false
open Go Go.RowKit

theorem dec_symm {α : Type} [DecidableEq α] (a b : α) : decide (a = b) = decide (b = a) := by rw [Bool.eq_iff_iff]; simp [eq_comm]

theorem gEq_symm (g g' : GAny) : gEq g g' = gEq g' g := by
  cases g <;> cases g' <;> first | rfl | (simp only [gEq]; first | exact dec_symm _ _ | (rw [dec_symm, dec_symm (_ : ByteArray) _]; done) | (congr 1 <;> exact dec_symm _ _))
theorem gBad_symm (g g' : GAny) : gBad g g' = gBad g' g := by
  cases g <;> cases g' <;> rfl

mutual
theorem sEqual_symm : ∀ d d' : SVal, sEqual d d' = sEqual d' d
  | .num k n, d' => by
    cases d' with
    | num k' n' =>
      unfold sEqual
      by_cases h : k = k'
      · subst h
        simp only [ne_eq, not_true_eq_false, if_false]
        rw [feq_symm, dec_symm n n']
      · rw [if_pos h, if_pos (fun e => h e.symm)]
    | _ => unfold sEqual; rfl
  | .str s, d' => by
    cases d' with
    | str s' => unfold sEqual; rw [dec_symm]
    | _ => unfold sEqual; rfl
  | .time t, d' => by
    cases d' with
    | time t' => unfold sEqual; rw [dec_symm t.sec, dec_symm t.nsec]
    | _ => unfold sEqual; rfl
  | .any g, d' => by
    cases d' with
    | any g' => unfold sEqual; rw [gEq_symm, gBad_symm]
    | _ => unfold sEqual; rfl
  | .valuer _ _ _, d' => by cases d' <;> (unfold sEqual; rfl)
  | .throws s c, d' => by
    cases d' with
    | throws s' c' => unfold sEqual; rw [dec_symm]
    | _ => unfold sEqual; rfl
  | .group l, d' => by
    cases d' with
    | group l' =>
      unfold sEqual
      by_cases h : l.len = l'.len
      · rw [if_neg (fun e => e h), if_neg (fun e => e h.symm)]
        exact sEqualAll_symm l l'
      · rw [if_pos h, if_pos (fun e => h e.symm)]
    | _ => unfold sEqual; rfl
theorem sEqualAll_symm : ∀ l l' : SAttrs, sEqualAll l l' = sEqualAll l' l
  | .nil, l' => by cases l' <;> (unfold sEqualAll; rfl)
  | .cons k v r, l' => by
    cases l' with
    | nil => unfold sEqualAll; rfl
    | cons k' v' r' =>
      unfold sEqualAll
      rw [sEqual_symm v v', sEqualAll_symm r r']
      by_cases h : k = k'
      · subst h; rfl
      · rw [if_pos h, if_pos (fun e => h e.symm)]
end

theorem gEq_trans {x y z : GAny} (h : gEq x y = true) (h' : gEq y z = true) : gEq x z = true ∧ gBad x z = false := by
  cases x <;> cases y <;> first | (exfalso; simp [gEq] at h; done) | skip
  all_goals (cases z <;> first | (exfalso; simp [gEq] at h'; done) | skip)
  all_goals (simp only [gEq, gBad, Bool.and_eq_true, decide_eq_true_iff, and_true, true_and] at h h' ⊢ <;> first | trivial | exact h.trans h' | exact ⟨h.1.trans h'.1, h.2.trans h'.2⟩)

mutual
theorem sEqual_trans : ∀ x y z : SVal, sEqual x y = (true, false) → sEqual y z = (true, false) → sEqual x z = (true, false)
  | .num k n, y, z, h, h' => by
    cases y with
    | num k' n' =>
      cases z with
      | num k'' n'' =>
        unfold sEqual at h h' ⊢
        by_cases e : k = k'
        · subst e
          by_cases e' : k = k''
          · subst e'
            simp only [ne_eq, not_true_eq_false, if_false] at h h' ⊢
            by_cases e3 : k = 3
            · rw [if_pos e3] at h h' ⊢
              rw [feq_trans (Prod.mk.inj h).1 (Prod.mk.inj h').1]
            · rw [if_neg e3] at h h' ⊢
              have h1 := of_decide_eq_true (Prod.mk.inj h).1
              have h2 := of_decide_eq_true (Prod.mk.inj h').1
              rw [decide_eq_true (h1.trans h2)]
          · rw [if_pos e'] at h'; cases h'
        · rw [if_pos e] at h; cases h
      | _ => unfold sEqual at h'; cases h'
    | _ => unfold sEqual at h; cases h
  | .str s, y, z, h, h' => by
    cases y with
    | str s' =>
      cases z with
      | str s'' =>
        unfold sEqual at h h' ⊢
        rw [decide_eq_true ((of_decide_eq_true (Prod.mk.inj h).1).trans (of_decide_eq_true (Prod.mk.inj h').1))]
      | _ => unfold sEqual at h'; cases h'
    | _ => unfold sEqual at h; cases h
  | .time t, y, z, h, h' => by
    cases y with
    | time t' =>
      cases z with
      | time t'' =>
        unfold sEqual at h h' ⊢
        have h1 := (Prod.mk.inj h).1
        have h2 := (Prod.mk.inj h').1
        simp only [Bool.and_eq_true, decide_eq_true_iff] at h1 h2
        rw [decide_eq_true (h1.1.trans h2.1), decide_eq_true (h1.2.trans h2.2)]
        rfl
      | _ => unfold sEqual at h'; cases h'
    | _ => unfold sEqual at h; cases h
  | .any g, y, z, h, h' => by
    cases y with
    | any g' =>
      cases z with
      | any g'' =>
        unfold sEqual at h h' ⊢
        obtain ⟨e1, e2⟩ := gEq_trans (Prod.mk.inj h).1 (Prod.mk.inj h').1
        rw [e1, e2]
      | _ => unfold sEqual at h'; cases h'
    | _ => unfold sEqual at h; cases h
  | .valuer _ _ _, y, z, h, h' => by cases y <;> (unfold sEqual at h; cases h)
  | .throws s c, y, z, h, h' => by
    cases y with
    | throws s' c' =>
      cases z with
      | throws s'' c'' =>
        unfold sEqual at h h' ⊢
        rw [decide_eq_true ((of_decide_eq_true (Prod.mk.inj h).1).trans (of_decide_eq_true (Prod.mk.inj h').1))]
      | _ => unfold sEqual at h'; cases h'
    | _ => unfold sEqual at h; cases h
  | .group l, y, z, h, h' => by
    cases y with
    | group l' =>
      cases z with
      | group l'' =>
        unfold sEqual at h h' ⊢
        by_cases e : l.len = l'.len
        · by_cases e' : l'.len = l''.len
          · rw [if_neg (fun q => q e)] at h
            rw [if_neg (fun q => q e')] at h'
            rw [if_neg (fun q => q (e.trans e'))]
            exact sEqualAll_trans l l' l'' (e.trans e') e h h'
          · rw [if_pos e'] at h'; cases h'
        · rw [if_pos e] at h; cases h
      | _ => unfold sEqual at h'; cases h'
    | _ => unfold sEqual at h; cases h
theorem sEqualAll_trans : ∀ x y z : SAttrs, x.len = z.len → x.len = y.len → sEqualAll x y = (true, false) → sEqualAll y z = (true, false) → sEqualAll x z = (true, false)
  | .nil, y, z, _, _, h, h' => by unfold sEqualAll; rfl
  | .cons k v r, .nil, z, _, hl, _, _ => by simp [SAttrs.len] at hl
  | .cons k v r, .cons k' v' r', .nil, hl, _, _, _ => by simp [SAttrs.len] at hl
  | .cons k v r, .cons k' v' r', .cons k'' v'' r'', hl, hl', h, h' => by
    simp only [SAttrs.len, Nat.add_right_cancel_iff] at hl hl'
    unfold sEqualAll at h h' ⊢
    by_cases e : k = k'
    · subst e
      by_cases e' : k = k''
      · subst e'
        simp only [ne_eq, not_true_eq_false, if_false] at h h' ⊢
        by_cases c : (sEqual v v').2 = true ∨ (sEqual v v').1 = false
        · rw [if_pos c] at h; rw [h] at c; simp at c
        by_cases c' : (sEqual v' v'').2 = true ∨ (sEqual v' v'').1 = false
        · rw [if_pos c'] at h'; rw [h'] at c'; simp at c'
        rw [if_neg c] at h
        rw [if_neg c'] at h'
        have t1 : sEqual v v' = (true, false) := by
          generalize sEqual v v' = q at c; obtain ⟨a, b⟩ := q; cases a <;> cases b <;> simp at c ⊢
        have t2 : sEqual v' v'' = (true, false) := by
          generalize sEqual v' v'' = q at c'; obtain ⟨a, b⟩ := q; cases a <;> cases b <;> simp at c' ⊢
        have t3 := sEqual_trans v v' v'' t1 t2
        rw [t3]
        simp only [Bool.false_eq_true, Bool.true_eq_false, or_self, if_false]
        exact sEqualAll_trans r r' r'' hl hl' h h'
      · rw [if_pos e'] at h'; cases h'
    · rw [if_pos e] at h; cases h
end

/-- The value with which a group is made longer. -/
def unitV : GVal := .mk 4 1 ⟨#[]⟩ .zero .nil
def wrapV (d : GVal) : GVal := .mk 8 0 ⟨#[]⟩ .zero (.cons ⟨#[107]⟩ d (.cons ⟨#[108]⟩ unitV .nil))

theorem value_unit : valueOf none unitV = .num 4 1 := by unfold unitV valueOf; rfl
theorem unit_unit : sEqual (valueOf none unitV) (valueOf none unitV) = (true, false) := by rw [value_unit]; unfold sEqual; rfl
theorem not_empty {d : GVal} (h : (vaTidy d).kind ≠ 8) : (valueOf none d).isEmptyGroup = false := by
  rw [tidy_kind] at h
  have := stays_full none d
  have hs : (vaTidy d).stays = true := by
    have hk := tidy_kind d
    generalize vaTidy d = q at hk ⊢
    obtain ⟨k, n, s, t, l⟩ := q
    simp only [kind_mk] at hk
    rw [← hk] at h
    simp [GVal.stays, h]
  rw [hs] at this
  cases hb : (valueOf none d).isEmptyGroup with
  | false => rfl
  | true => rw [hb] at this; cases this
theorem value_wrap {d : GVal} (h : (vaTidy d).kind ≠ 8) : valueOf none (wrapV d) = .group (.cons ⟨#[107]⟩ (valueOf none d) (.cons ⟨#[108]⟩ (.num 4 1) .nil)) := by
  unfold wrapV
  rw [pvalue_grp]
  have hn : (SVal.num 4 1).isEmptyGroup = false := rfl
  simp only [attrsOf, SAttrs.full, not_empty h, value_unit, hn, Bool.false_eq_true, if_false]
/-- In a group two values are equal just if they are alone. -/
theorem wrap_wrap {a b : GVal} (ha : (vaTidy a).kind ≠ 8) (hb : (vaTidy b).kind ≠ 8) : (sEqual (valueOf none (wrapV a)) (valueOf none (wrapV b))).2 = (sEqual (valueOf none a) (valueOf none b)).2 ∧
    ((sEqual (valueOf none a) (valueOf none b)).2 = false → (sEqual (valueOf none (wrapV a)) (valueOf none (wrapV b))).1 = (sEqual (valueOf none a) (valueOf none b)).1) := by
  rw [value_wrap ha, value_wrap hb]
  generalize valueOf none a = x
  generalize valueOf none b = y
  have h1 : sEqual (.num 4 1) (.num 4 1) = (true, false) := by unfold sEqual; rfl
  have e : sEqual (.group (.cons ⟨#[107]⟩ x (.cons ⟨#[108]⟩ (.num 4 1) .nil))) (.group (.cons ⟨#[107]⟩ y (.cons ⟨#[108]⟩ (.num 4 1) .nil))) = if (sEqual x y).2 = true ∨ (sEqual x y).1 = false then sEqual x y else (true, false) := by
    simp only [sEqual, SAttrs.len, sEqualAll]
    simp
  rw [e]
  generalize sEqual x y = q
  obtain ⟨q1, q2⟩ := q
  cases q1 <;> cases q2 <;> simp

end Go.Proofs.YtcgdnjigocknbaaDoor.Va

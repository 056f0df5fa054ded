/- What the statements over equality say, in plain Lean: what the reference has be equal is what package slog has be equal. No program in sight. -/
import Derived.Test.YtcgdnjigocknbaaDoorSEqD
namespace Go.Proofs.YtcgdnjigocknbaaDoor.Va
set_option linter.unusedVariables false
set_option linter.unusedSimpArgs false
open Go Go.RowKit

/-- The one that is not needed. -/
def GAttrs.all (p : GVal → Prop) : GAttrs → Prop
  | .nil => True
  | .cons _ v r => p v ∧ GAttrs.all p r

mutual
/-- Such values as the statements speak of. -/
def good : GVal → Prop
  | .mk k n _ t l => 0 ≤ k ∧ k ≤ 9 ∧ (k = 0 → n < 16) ∧ (k = 1 → n ≤ 1) ∧ (k = 6 → timeGood t = true) ∧ (k = 9 → 1 ≤ n) ∧ goodAll l
def goodAll : GAttrs → Prop
  | .nil => True
  | .cons _ v r => good v ∧ goodAll r
end

mutual
theorem left_good : ∀ (d : GVal) (deep left : Int), 0 ≤ vaLeft d deep left → good d ∧ (d.size : Int) + vaLeft d deep left ≤ left
  | .mk k n s t l, deep, left, h => by
    unfold vaLeft at h ⊢
    by_cases h1 : left - (1 + s.size) < 0 ∨ deep < 1 ∨ k < 0 ∨ 9 < k
    · rw [if_pos h1] at h; omega
    rw [if_neg h1] at h ⊢
    by_cases h2 : k = 0 ∧ 16 ≤ n
    · rw [if_pos h2] at h; omega
    rw [if_neg h2] at h ⊢
    by_cases h3 : k = 1 ∧ 1 < n
    · rw [if_pos h3] at h; omega
    rw [if_neg h3] at h ⊢
    by_cases h4 : k = 6 ∧ timeGood t = false
    · rw [if_pos h4] at h; omega
    rw [if_neg h4] at h ⊢
    by_cases h5 : k = 9 ∧ n < 1
    · rw [if_pos h5] at h; omega
    rw [if_neg h5] at h ⊢
    obtain ⟨g, hs⟩ := leftAll_good l (deep - 1) (left - (1 + s.size)) h
    unfold good GVal.size
    refine ⟨⟨by omega, by omega, by omega, by omega, fun e => ?_, by omega, g⟩, by push_cast; omega⟩
    cases ht : timeGood t with
    | true => rfl
    | false => exact absurd ⟨e, ht⟩ h4
theorem leftAll_good : ∀ (l : GAttrs) (deep left : Int), 0 ≤ vaLeftAll l deep left → goodAll l ∧ (l.size : Int) + vaLeftAll l deep left ≤ left
  | .nil, deep, left, h => by
    unfold vaLeftAll at h ⊢
    unfold goodAll GAttrs.size
    exact ⟨trivial, by omega⟩
  | .cons key v r, deep, left, h => by
    by_cases h1 : left - key.size < 0
    · rw [vaLeftAll_key h1] at h; omega
    by_cases h2 : vaLeft v deep (left - key.size) < 0
    · rw [vaLeftAll_val h1 h2] at h; omega
    rw [vaLeftAll_on h1 h2] at h ⊢
    obtain ⟨g1, s1⟩ := left_good v deep (left - key.size) (by omega)
    obtain ⟨g2, s2⟩ := leftAll_good r deep _ h
    unfold goodAll GAttrs.size
    exact ⟨⟨g1, g2⟩, by push_cast; omega⟩
end

/-- The attributes that are no groups without attributes. -/
def kept : GAttrs → GAttrs
  | .nil => .nil
  | .cons key v r => if (vaTidy v).stays then .cons key v (kept r) else kept r
def tidyMap : GAttrs → GAttrs
  | .nil => .nil
  | .cons key v r => .cons key (vaTidy v) (tidyMap r)

theorem tidyAll_kept : ∀ l : GAttrs, vaTidyAll l = tidyMap (kept l)
  | .nil => by simp only [vaTidyAll, kept, tidyMap]
  | .cons key v r => by
    simp only [vaTidyAll, kept]
    split
    · simp only [tidyMap]; rw [tidyAll_kept r]
    · exact tidyAll_kept r

theorem tidy_kind (d : GVal) : (vaTidy d).kind = d.kind := by
  obtain ⟨k, n, s, t, l⟩ := d
  unfold vaTidy
  by_cases h0 : k = 0
  · subst h0
    rw [if_pos rfl]
    repeat' split
    all_goals rfl
  rw [if_neg h0]
  repeat' split
  all_goals rfl

mutual
theorem stays_full (c : Option Addr) : ∀ d : GVal, (vaTidy d).stays = !(valueOf c d).isEmptyGroup
  | .mk k n s t l => by
    by_cases h8 : k = 8
    · subst h8
      have e1 : vaTidy (.mk 8 n s t l) = .mk 8 0 ByteArray.empty .zero (vaTidyAll l) := by unfold vaTidy; simp
      have e2 : valueOf c (.mk 8 n s t l) = .group (attrsOf c l).full := by unfold valueOf; simp
      rw [e1, e2]
      have := len_full c l
      unfold GVal.stays
      cases hf : (attrsOf c l).full with
      | nil => rw [hf] at this; simp [SVal.isEmptyGroup, SAttrs.len] at this ⊢; exact this
      | cons key v r => rw [hf] at this; simp [SVal.isEmptyGroup, SAttrs.len] at this ⊢; omega
    · have e1 : (vaTidy (.mk k n s t l)).stays = true := by
        have hk := tidy_kind (.mk k n s t l)
        generalize vaTidy (.mk k n s t l) = d at hk ⊢
        obtain ⟨k', n', s', t', l'⟩ := d
        simp only [kind_mk] at hk
        subst hk
        simp [GVal.stays, h8]
      rw [e1]
      have e2 : ∀ m, valueOf c (.mk k n s t l) ≠ .group m := by
        intro m h
        unfold valueOf at h
        rw [if_neg h8] at h
        repeat' split at h
        all_goals cases h
      cases hv : valueOf c (.mk k n s t l) with
      | group m => exact absurd hv (e2 m)
      | _ => rfl
theorem len_full (c : Option Addr) : ∀ l : GAttrs, (vaTidyAll l).len = (attrsOf c l).full.len
  | .nil => by simp only [vaTidyAll, attrsOf, SAttrs.full, GAttrs.len, SAttrs.len]
  | .cons key v r => by
    simp only [vaTidyAll, attrsOf, SAttrs.full]
    rw [stays_full c v]
    cases (valueOf c v).isEmptyGroup with
    | true => simpa using len_full c r
    | false => simpa [GAttrs.len, SAttrs.len] using len_full c r
end

theorem full_kept (c : Option Addr) : ∀ l : GAttrs, (attrsOf c l).full = attrsOf c (kept l)
  | .nil => by simp only [attrsOf, SAttrs.full, kept]
  | .cons key v r => by
    simp only [attrsOf, SAttrs.full, kept]
    rw [stays_full c v]
    cases (valueOf c v).isEmptyGroup with
    | true => simpa using full_kept c r
    | false => simpa [attrsOf] using full_kept c r

theorem kept_all {p : GVal → Prop} : ∀ l : GAttrs, GAttrs.all p l → GAttrs.all p (kept l)
  | .nil, h => h
  | .cons key v r, h => by
    unfold kept
    split
    · exact ⟨h.1, kept_all r h.2⟩
    · exact kept_all r h.2
theorem good_all : ∀ (l : GAttrs) (N : Nat), l.size ≤ N → goodAll l → GAttrs.all (fun v => good v ∧ v.size ≤ N) l
  | .nil, _, _, _ => trivial
  | .cons key v r, N, hN, h => by
    unfold goodAll at h
    unfold GAttrs.size at hN
    exact ⟨⟨h.1, by omega⟩, good_all r N (by omega) h.2⟩
theorem len_tidyMap : ∀ l : GAttrs, (tidyMap l).len = l.len
  | .nil => rfl
  | .cons _ _ r => by simp only [tidyMap, GAttrs.len]; rw [len_tidyMap r]

/-- The same answer; but the first part counts only where there is no panic. -/
def Same2 (p q : Bool × Bool) : Prop := p.2 = q.2 ∧ (p.2 = false → p.1 = q.1)
theorem Same2.refl (p : Bool × Bool) : Same2 p p := ⟨rfl, fun _ => rfl⟩

theorem head_cons (k : ByteArray) (v : GVal) (r : GAttrs) : (GAttrs.cons k v r).head = k := rfl

theorem same_all (c c' : Option Addr) : ∀ (m m' : GAttrs), m.len = m'.len → (GAttrs.all (fun v => ∀ v', good v' ∧ v'.wf → Same2 (vaEqual (vaTidy v) (vaTidy v')) (sEqual (valueOf c v) (valueOf c' v'))) m) → GAttrs.all (fun v => good v ∧ v.wf) m' →
    Same2 (vaEqualAll (tidyMap m) (tidyMap m')) (sEqualAll (attrsOf c m) (attrsOf c' m'))
  | .nil, .nil, _, _, _ => by simp only [tidyMap, attrsOf, vaEqualAll, sEqualAll]; exact Same2.refl _
  | .nil, .cons _ _ _, h, _, _ => by simp [GAttrs.len] at h
  | .cons _ _ _, .nil, h, _, _ => by simp [GAttrs.len] at h
  | .cons key v r, .cons key' v' r', h, ha, hg => by
    simp only [GAttrs.len, Nat.add_right_cancel_iff] at h
    have h1 := ha.1 v' hg.1
    have h2 := same_all c c' r r' h ha.2 hg.2
    simp only [tidyMap, attrsOf, vaEqualAll, sEqualAll]
    by_cases hk : key = key'
    · subst hk
      simp only [ne_eq, not_true_eq_false, if_false]
      obtain ⟨e2, e1⟩ := h1
      by_cases hc : (vaEqual (vaTidy v) (vaTidy v')).2 = true ∨ (vaEqual (vaTidy v) (vaTidy v')).1 = false
      · have hc' : (sEqual (valueOf c v) (valueOf c' v')).2 = true ∨ (sEqual (valueOf c v) (valueOf c' v')).1 = false := by
          cases hb : (vaEqual (vaTidy v) (vaTidy v')).2 with
          | true => exact .inl (by rw [← e2, hb])
          | false =>
            rw [hb] at hc
            rcases hc with hc | hc
            · cases hc
            · exact .inr (by rw [← e1 hb, hc])
        rw [if_pos hc, if_pos hc']
        exact ⟨e2, e1⟩
      · have hc' : ¬ ((sEqual (valueOf c v) (valueOf c' v')).2 = true ∨ (sEqual (valueOf c v) (valueOf c' v')).1 = false) := by
          intro h
          cases hb : (vaEqual (vaTidy v) (vaTidy v')).2 with
          | true => exact hc (.inl hb)
          | false =>
            rcases h with h | h
            · rw [← e2, hb] at h; cases h
            · exact hc (.inr (by rw [e1 hb, h]))
        rw [if_neg hc, if_neg hc']
        exact h2
    · rw [if_pos hk, if_pos hk]
      exact Same2.refl _

/-- The number of a sort of Go values. -/
def code : GAny → Int
  | .nil => 0
  | .err _ => 1
  | .stringer _ => 2
  | .bytes _ => 3
  | .text _ => 4
  | .fails _ => 5
  | .number _ => 6
  | .level _ => 7
  | .kind _ => 8
  | .appender _ _ => 9
  | .lacks _ => 10
  | .panics _ => 11
  | .pointer => 12
  | .source _ _ _ => 13
  | .nosource => 14
  | .both _ _ => 15
  | .made _ => 16
theorem code_ne {g g' : GAny} (h : code g ≠ code g') : gEq g g' = false ∧ gBad g g' = false := by
  cases g <;> cases g' <;> first | exact ⟨rfl, rfl⟩ | exact absurd rfl h
theorem code_anyOf (n : Int) (s : ByteArray) (t : GTime) (l : GAttrs) (h0 : 0 ≤ n) (h : n < 16) : code (anyOf n s t l) = n := by
  have : n = 0 ∨ n = 1 ∨ n = 2 ∨ n = 3 ∨ n = 4 ∨ n = 5 ∨ n = 6 ∨ n = 7 ∨ n = 8 ∨ n = 9 ∨ n = 10 ∨ n = 11 ∨ n = 12 ∨ n = 13 ∨ n = 14 ∨ n = 15 := by omega
  rcases this with rfl | rfl | rfl | rfl | rfl | rfl | rfl | rfl | rfl | rfl | rfl | rfl | rfl | rfl | rfl | rfl <;> rfl

theorem ptidy_any0 (n : Int) (s : ByteArray) (t : GTime) (l : GAttrs) : vaTidy (.mk 0 n s t l) = if n = 6 ∨ n = 7 ∨ n = 8 then .mk 0 n ByteArray.empty ⟨t.sec, 0, 0⟩ .nil
      else if n = 13 then .mk 0 n s ⟨t.sec, 0, 0⟩ (.cons l.head GVal.zero .nil)
      else if n = 15 then .mk 0 n s .zero (.cons l.head GVal.zero .nil)
      else if n = 0 ∨ n = 12 ∨ n = 14 then .mk 0 n ByteArray.empty .zero .nil
      else .mk 0 n s .zero .nil := by
  unfold vaTidy
  rw [if_pos rfl]
theorem pvalueOf_any0 (c : Option Addr) (n : Int) (s : ByteArray) (t : GTime) (l : GAttrs) : valueOf c (.mk 0 n s t l) = .any (anyOf n s t l) := by
  unfold valueOf
  rfl
theorem ptidy_n0 (n : Int) (s : ByteArray) (t : GTime) (l : GAttrs) : ∃ s1 t1 l1, vaTidy (.mk 0 n s t l) = .mk 0 n s1 t1 l1 := by
  rw [ptidy_any0]
  repeat' split
  all_goals exact ⟨_, _, _, rfl⟩

theorem same_any (c c' : Option Addr) (n n' : Int) (s s' : ByteArray) (t t' : GTime) (l l' : GAttrs) (h0 : 0 ≤ n) (h : n < 16) (h0' : 0 ≤ n') (h' : n' < 16) :
    Same2 (vaEqual (vaTidy (.mk 0 n s t l)) (vaTidy (.mk 0 n' s' t' l'))) (sEqual (valueOf c (.mk 0 n s t l)) (valueOf c' (.mk 0 n' s' t' l'))) := by
  rw [pvalueOf_any0, pvalueOf_any0]
  have es : sEqual (.any (anyOf n s t l)) (.any (anyOf n' s' t' l')) = (gEq (anyOf n s t l) (anyOf n' s' t' l'), gBad (anyOf n s t l) (anyOf n' s' t' l')) := by unfold sEqual; rfl
  rw [es]
  by_cases hn : n = n'
  · subst hn
    have : n = 0 ∨ n = 1 ∨ n = 2 ∨ n = 3 ∨ n = 4 ∨ n = 5 ∨ n = 6 ∨ n = 7 ∨ n = 8 ∨ n = 9 ∨ n = 10 ∨ n = 11 ∨ n = 12 ∨ n = 13 ∨ n = 14 ∨ n = 15 := by omega
    rcases this with rfl | rfl | rfl | rfl | rfl | rfl | rfl | rfl | rfl | rfl | rfl | rfl | rfl | rfl | rfl | rfl <;> (rw [ptidy_any0, ptidy_any0]; simp [vaEqual, anyEqual, anyOf, gEq, gBad, Same2, head_cons]; try (first | rfl | (rw [Bool.eq_iff_iff]; simp)))
  · have hc : code (anyOf n s t l) ≠ code (anyOf n' s' t' l') := by rw [code_anyOf n s t l h0 h, code_anyOf n' s' t' l' h0' h']; exact hn
    obtain ⟨e1, e2⟩ := code_ne hc
    rw [e1, e2]
    obtain ⟨s1, t1, l1, r1⟩ := ptidy_n0 n s t l
    obtain ⟨s2, t2, l2, r2⟩ := ptidy_n0 n' s' t' l'
    rw [r1, r2]
    simp [vaEqual, anyEqual, hn, Same2]

theorem size_kept : ∀ l : GAttrs, (kept l).size ≤ l.size
  | .nil => Nat.le_refl _
  | .cons key v r => by
    have := size_kept r
    unfold kept
    split
    · simp only [GAttrs.size]; omega
    · simp only [GAttrs.size]; omega
theorem goodAll_kept : ∀ l : GAttrs, goodAll l → goodAll (kept l)
  | .nil, h => h
  | .cons key v r, h => by
    unfold goodAll at h
    unfold kept
    split
    · unfold goodAll; exact ⟨h.1, goodAll_kept r h.2⟩
    · exact goodAll_kept r h.2
theorem all_of {p : GVal → Prop} (N : Nat) : ∀ (l : GAttrs), l.size ≤ N → goodAll l → GAttrs.wf l → (∀ v : GVal, v.size ≤ N → good v → v.wf → p v) → GAttrs.all p l
  | .nil, _, _, _, _ => trivial
  | .cons key v r, hN, h, hw, hp => by
    unfold goodAll at h
    unfold GAttrs.wf at hw
    unfold GAttrs.size at hN
    exact ⟨hp v (by omega) h.1 hw.2.1, all_of N r (by omega) h.2 hw.2.2 hp⟩
theorem wf_kept : ∀ l : GAttrs, GAttrs.wf l → GAttrs.wf (kept l)
  | .nil, h => h
  | .cons key v r, h => by
    unfold GAttrs.wf at h
    unfold kept
    split
    · unfold GAttrs.wf; exact ⟨h.1, h.2.1, wf_kept r h.2.2⟩
    · exact wf_kept r h.2.2

theorem ptidy_num {k : Int} (hk : k = 1 ∨ k = 2 ∨ k = 3 ∨ k = 4 ∨ k = 7) (n : Int) (s : ByteArray) (t : GTime) (l : GAttrs) : vaTidy (.mk k n s t l) = .mk k n ByteArray.empty .zero .nil := by
  rcases hk with rfl | rfl | rfl | rfl | rfl <;> (unfold vaTidy; simp)
theorem pvalue_num (c : Option Addr) {k : Int} (hk : k = 1 ∨ k = 2 ∨ k = 3 ∨ k = 4 ∨ k = 7) (n : Int) (h0 : 0 ≤ n) (h1 : k = 1 → n ≤ 1) (s : ByteArray) (t : GTime) (l : GAttrs) : valueOf c (.mk k n s t l) = .num k n := by
  rcases hk with rfl | rfl | rfl | rfl | rfl
  · have := h1 rfl
    have : n % 2 = n := by omega
    unfold valueOf; simp [this]
  all_goals (unfold valueOf; simp)
theorem ptidy_str (n : Int) (s : ByteArray) (t : GTime) (l : GAttrs) : vaTidy (.mk 5 n s t l) = .mk 5 0 s .zero .nil := by unfold vaTidy; simp
theorem pvalue_str (c : Option Addr) (n : Int) (s : ByteArray) (t : GTime) (l : GAttrs) : valueOf c (.mk 5 n s t l) = .str s := by unfold valueOf; simp
theorem ptidy_time (n : Int) (s : ByteArray) (t : GTime) (l : GAttrs) : vaTidy (.mk 6 n s t l) = .mk 6 0 ByteArray.empty t .nil := by unfold vaTidy; simp
theorem pvalue_time (c : Option Addr) (n : Int) (s : ByteArray) (t : GTime) (l : GAttrs) : valueOf c (.mk 6 n s t l) = .time t := by unfold valueOf; simp
theorem ptidy_grp (n : Int) (s : ByteArray) (t : GTime) (l : GAttrs) : vaTidy (.mk 8 n s t l) = .mk 8 0 ByteArray.empty .zero (vaTidyAll l) := by unfold vaTidy; simp
theorem pvalue_grp (c : Option Addr) (n : Int) (s : ByteArray) (t : GTime) (l : GAttrs) : valueOf c (.mk 8 n s t l) = .group (attrsOf c l).full := by unfold valueOf; simp
theorem ptidy_lv (n : Int) (s : ByteArray) (t : GTime) (l : GAttrs) : ∃ l1, vaTidy (.mk 9 n s t l) = .mk 9 n s .zero l1 := ⟨if s.size = 0 then .cons ByteArray.empty (vaEnd l) .nil else .nil, by unfold vaTidy; rfl⟩
theorem pvalue_lv (c : Option Addr) (n : Int) (s : ByteArray) (t : GTime) (l : GAttrs) : valueOf c (.mk 9 n s t l) = if s.size = 0 then .valuer n (headOf c l) c else .throws s c := by unfold valueOf; simp
theorem size_zero {s : ByteArray} : s.size = 0 ↔ s = ByteArray.empty := ⟨empty_of_size, fun h => by rw [h]; rfl⟩

theorem value_kind (c : Option Addr) : ∀ d : GVal, good d → (valueOf c d).kind = d.kind
  | .mk k n s t l, h => by
    unfold good at h
    obtain ⟨h0, h9, _⟩ := h
    have : k = 0 ∨ k = 1 ∨ k = 2 ∨ k = 3 ∨ k = 4 ∨ k = 5 ∨ k = 6 ∨ k = 7 ∨ k = 8 ∨ k = 9 := by omega
    rcases this with rfl | rfl | rfl | rfl | rfl | rfl | rfl | rfl | rfl | rfl
    · rw [pvalueOf_any0]; rfl
    all_goals first
      | (rw [pvalue_str]; rfl)
      | (rw [pvalue_time]; rfl)
      | (rw [pvalue_grp]; rfl)
      | (rw [pvalue_lv]; split <;> rfl)
      | (unfold valueOf; rfl)

theorem same_size (c c' : Option Addr) : ∀ (N : Nat) (d : GVal), d.size ≤ N → d.wf → good d → ∀ d' : GVal, d'.wf → good d' → Same2 (vaEqual (vaTidy d) (vaTidy d')) (sEqual (valueOf c d) (valueOf c' d'))
  | 0, d, hN, _, _, _, _, _ => absurd hN (by have := size_pos d; omega)
  | N + 1, .mk k n s t l, hN, hw, hg, .mk k' n' s' t' l', hw', hg' => by
    by_cases hk : k = k'
    · subst hk
      have hg0 := hg
      have hg0' := hg'
      unfold good at hg0 hg0'
      unfold GVal.wf at hw hw'
      obtain ⟨g0, g9, ga, gb, _, gc, gl⟩ := hg0
      obtain ⟨_, _, ga', gb', _, gc', gl'⟩ := hg0'
      have : k = 0 ∨ k = 5 ∨ k = 6 ∨ k = 8 ∨ k = 9 ∨ (k = 1 ∨ k = 2 ∨ k = 3 ∨ k = 4 ∨ k = 7) := by omega
      rcases this with rfl | rfl | rfl | rfl | rfl | hn
      · exact same_any c c' n n' s s' t t' l l' hw.2.1.1 (ga rfl) hw'.2.1.1 (ga' rfl)
      · rw [ptidy_str, ptidy_str, pvalue_str, pvalue_str]; simp [vaEqual, sEqual, Same2]
      · rw [ptidy_time, ptidy_time, pvalue_time, pvalue_time]; simp [vaEqual, sEqual, Same2]
      · rw [ptidy_grp, ptidy_grp, pvalue_grp, pvalue_grp]
        have e1 : vaEqual (.mk 8 0 ByteArray.empty .zero (vaTidyAll l)) (.mk 8 0 ByteArray.empty .zero (vaTidyAll l')) = if (vaTidyAll l).len ≠ (vaTidyAll l').len then (false, false) else vaEqualAll (vaTidyAll l) (vaTidyAll l') := by simp [vaEqual]
        have e2 : sEqual (.group (attrsOf c l).full) (.group (attrsOf c' l').full) = if (attrsOf c l).full.len ≠ (attrsOf c' l').full.len then (false, false) else sEqualAll (attrsOf c l).full (attrsOf c' l').full := by unfold sEqual; rfl
        rw [e1, e2, ← len_full c l, ← len_full c' l']
        by_cases hlen : (vaTidyAll l).len = (vaTidyAll l').len
        · rw [if_neg (fun h => h hlen), if_neg (fun h => h hlen)]
          rw [tidyAll_kept, tidyAll_kept, len_tidyMap, len_tidyMap] at hlen
          rw [tidyAll_kept, tidyAll_kept, full_kept, full_kept]
          simp only [GVal.size] at hN
          have hsk := size_kept l
          refine same_all c c' _ _ hlen ?_ (all_of _ _ (Nat.le_refl _) (goodAll_kept _ gl') (wf_kept _ hw'.2.2.2.2.2.2.2) (fun v _ h1 h2 => ⟨h1, h2⟩))
          exact all_of N _ (by omega) (goodAll_kept _ gl) (wf_kept _ hw.2.2.2.2.2.2.2) (fun v hv h1 h2 v' hv' => same_size c c' N v hv h2 h1 v' hv'.2 hv'.1)
        · rw [if_pos hlen, if_pos hlen]
          exact Same2.refl _
      · obtain ⟨l1, r1⟩ := ptidy_lv n s t l
        obtain ⟨l2, r2⟩ := ptidy_lv n' s' t' l'
        rw [r1, r2, pvalue_lv, pvalue_lv]
        by_cases h1 : s.size = 0
        · have e1 := size_zero.1 h1
          by_cases h2 : s'.size = 0
          · have e2 := size_zero.1 h2
            rw [if_pos h1, if_pos h2]; subst e1 e2; simp [vaEqual, sEqual, Same2]
          · have e2 : ¬ s' = ByteArray.empty := fun h => h2 (size_zero.2 h)
            rw [if_pos h1, if_neg h2]; subst e1; simp [vaEqual, sEqual, Same2, e2]
        · have e1 : ¬ s = ByteArray.empty := fun h => h1 (size_zero.2 h)
          by_cases h2 : s'.size = 0
          · have e2 := size_zero.1 h2
            rw [if_neg h1, if_pos h2]; subst e2; simp [vaEqual, sEqual, Same2, e1]
          · rw [if_neg h1, if_neg h2]; simp [vaEqual, sEqual, Same2, e1]
      · rw [ptidy_num hn, ptidy_num hn, pvalue_num c hn n hw.2.1.1 gb, pvalue_num c' hn n' hw'.2.1.1 gb']
        rcases hn with rfl | rfl | rfl | rfl | rfl <;> simp [vaEqual, sEqual, Same2]
    · have h1 : vaEqual (vaTidy (.mk k n s t l)) (vaTidy (.mk k' n' s' t' l')) = (false, false) := by
        have e1 := tidy_kind (.mk k n s t l)
        have e2 := tidy_kind (.mk k' n' s' t' l')
        generalize vaTidy (.mk k n s t l) = a at e1 ⊢
        generalize vaTidy (.mk k' n' s' t' l') = b at e2 ⊢
        obtain ⟨ka, na, sa, ta, la⟩ := a
        obtain ⟨kb, nb, sb, tb, lb⟩ := b
        simp only [kind_mk] at e1 e2
        subst e1 e2
        simp [vaEqual, hk]
      have h2 : sEqual (valueOf c (.mk k n s t l)) (valueOf c' (.mk k' n' s' t' l')) = (false, false) := sEqual_ne (by rw [value_kind c _ hg, value_kind c' _ hg']; exact hk)
      rw [h1, h2]
      exact Same2.refl _

mutual
theorem tsize : ∀ d : GVal, (vaTidy d).size ≤ 2 * d.size
  | .mk k n s t l => by
    have hl := tsizeAll l
    have he := tsizeEnd l
    unfold vaTidy
    repeat' split
    all_goals (simp only [GVal.size, GAttrs.size, GVal.zero]; omega)
theorem tsizeEnd : ∀ l : GAttrs, (vaEnd l).size ≤ 2 * l.size + 1
  | .nil => by simp only [vaEnd, GVal.zero, GVal.size, GAttrs.size]; omega
  | .cons key v r => by have := tsize v; simp only [vaEnd, GAttrs.size]; omega
theorem tsizeAll : ∀ l : GAttrs, (vaTidyAll l).size ≤ 2 * l.size
  | .nil => by simp only [vaTidyAll, GAttrs.size]; omega
  | .cons key v r => by
    have h1 := tsize v
    have h2 := tsizeAll r
    unfold vaTidyAll
    split
    · simp only [GAttrs.size]; omega
    · simp only [GAttrs.size]; omega
end

theorem pfull_len : ∀ l : SAttrs, l.full.len ≤ l.len
  | .nil => Nat.le_refl _
  | .cons k v r => by
    have := pfull_len r
    unfold SAttrs.full
    split
    · simp only [SAttrs.len]; omega
    · simp only [SAttrs.len]; omega
theorem quietAll_full : ∀ l : SAttrs, sQuietAll l → sQuietAll l.full
  | .nil, h => h
  | .cons k v r, h => by
    unfold sQuietAll at h
    unfold SAttrs.full
    split
    · exact quietAll_full r h.2
    · unfold sQuietAll; exact ⟨h.1, quietAll_full r h.2⟩
theorem len_attrsOf (c : Option Addr) : ∀ l : GAttrs, (attrsOf c l).len = l.len
  | .nil => by simp only [attrsOf, SAttrs.len, GAttrs.len]
  | .cons _ _ r => by simp only [attrsOf, SAttrs.len, GAttrs.len]; rw [len_attrsOf c r]
mutual
theorem quiet_of : ∀ d : GVal, d.wf → sQuiet (valueOf none d)
  | .mk k n s t l, hw => by
    unfold GVal.wf at hw
    have hl := hw.2.2.2.2.2.2
    have hq := quietAll_of l hl.2
    unfold valueOf
    repeat' split
    all_goals first
      | (unfold sQuiet; trivial)
      | (unfold sQuiet; rfl)
      | (unfold sQuiet; exact ⟨Nat.le_trans (pfull_len _) (by rw [len_attrsOf]; exact hl.1), quietAll_full _ hq⟩)
theorem quietAll_of : ∀ l : GAttrs, GAttrs.wf l → sQuietAll (attrsOf none l)
  | .nil, _ => by unfold attrsOf sQuietAll; trivial
  | .cons key v r, h => by
    unfold GAttrs.wf at h
    unfold attrsOf sQuietAll
    exact ⟨quiet_of v h.2.1, quietAll_of r h.2.2⟩
end

end Go.Proofs.YtcgdnjigocknbaaDoor.Va

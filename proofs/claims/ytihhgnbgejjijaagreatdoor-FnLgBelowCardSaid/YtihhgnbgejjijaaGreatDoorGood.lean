/- The values that the statements speak of, and what the reference's tidying keeps of them; in plain Lean. No program in sight. -/
import Derived.Test.YtihhgnbgejjijaaGreatDoorOfD
namespace Go.Proofs.YtihhgnbgejjijaaGreatDoor.Va
set_option linter.unusedVariables false
set_option linter.unusedSimpArgs false
open Go Go.RowKit

/-- The one that is not needed. -/
def GAttrs.all (p : GVal → Prop) : GAttrs → Prop
  | .nil => True
  | .cons _ v r => p v ∧ GAttrs.all p r

mutual
/-- Such values as the statements speak of. -/
def good : GVal → Prop
  | .mk k n _ t l => 0 ≤ k ∧ k ≤ 9 ∧ (k = 0 → n < 16) ∧ (k = 1 → n ≤ 1) ∧ (k = 6 → timeGood t = true) ∧ (k = 9 → 0 ≤ n) ∧ goodAll l
def goodAll : GAttrs → Prop
  | .nil => True
  | .cons _ v r => good v ∧ goodAll r
end

mutual
theorem left_good : ∀ (d : GVal) (deep left : Int), 0 ≤ vaLeft d deep left → good d ∧ (d.size : Int) + vaLeft d deep left ≤ left
  | .mk k n s t l, deep, left, h => by
    unfold vaLeft at h ⊢
    by_cases h1 : left - (1 + s.size) < 0 ∨ deep < 1 ∨ k < 0 ∨ 9 < k
    · rw [if_pos h1] at h; omega
    rw [if_neg h1] at h ⊢
    by_cases h2 : k = 0 ∧ 16 ≤ n
    · rw [if_pos h2] at h; omega
    rw [if_neg h2] at h ⊢
    by_cases h3 : k = 1 ∧ 1 < n
    · rw [if_pos h3] at h; omega
    rw [if_neg h3] at h ⊢
    by_cases h4 : k = 6 ∧ timeGood t = false
    · rw [if_pos h4] at h; omega
    rw [if_neg h4] at h ⊢
    by_cases h5 : k = 9 ∧ n < 1
    · rw [if_pos h5] at h; omega
    rw [if_neg h5] at h ⊢
    obtain ⟨g, hs⟩ := leftAll_good l (deep - 1) (left - (1 + s.size)) h
    unfold good GVal.size
    refine ⟨⟨by omega, by omega, by omega, by omega, fun e => ?_, by omega, g⟩, by push_cast; omega⟩
    cases ht : timeGood t with
    | true => rfl
    | false => exact absurd ⟨e, ht⟩ h4
theorem leftAll_good : ∀ (l : GAttrs) (deep left : Int), 0 ≤ vaLeftAll l deep left → goodAll l ∧ (l.size : Int) + vaLeftAll l deep left ≤ left
  | .nil, deep, left, h => by
    unfold vaLeftAll at h ⊢
    unfold goodAll GAttrs.size
    exact ⟨trivial, by omega⟩
  | .cons key v r, deep, left, h => by
    by_cases h1 : left - key.size < 0
    · rw [vaLeftAll_key h1] at h; omega
    by_cases h2 : vaLeft v deep (left - key.size) < 0
    · rw [vaLeftAll_val h1 h2] at h; omega
    rw [vaLeftAll_on h1 h2] at h ⊢
    obtain ⟨g1, s1⟩ := left_good v deep (left - key.size) (by omega)
    obtain ⟨g2, s2⟩ := leftAll_good r deep _ h
    unfold goodAll GAttrs.size
    exact ⟨⟨g1, g2⟩, by push_cast; omega⟩
end

/-- The attributes that are no groups without attributes. -/
def kept : GAttrs → GAttrs
  | .nil => .nil
  | .cons key v r => if (vaTidy v).stays then .cons key v (kept r) else kept r
def tidyMap : GAttrs → GAttrs
  | .nil => .nil
  | .cons key v r => .cons key (vaTidy v) (tidyMap r)

theorem tidyAll_kept : ∀ l : GAttrs, vaTidyAll l = tidyMap (kept l)
  | .nil => by simp only [vaTidyAll, kept, tidyMap]
  | .cons key v r => by
    simp only [vaTidyAll, kept]
    split
    · simp only [tidyMap]; rw [tidyAll_kept r]
    · exact tidyAll_kept r

theorem tidy_kind (d : GVal) : (vaTidy d).kind = d.kind := by
  obtain ⟨k, n, s, t, l⟩ := d
  unfold vaTidy
  by_cases h0 : k = 0
  · subst h0
    rw [if_pos rfl]
    repeat' split
    all_goals rfl
  rw [if_neg h0]
  repeat' split
  all_goals rfl

mutual
theorem stays_full (c : Option Addr) : ∀ d : GVal, (vaTidy d).stays = !(valueOf c d).isEmptyGroup
  | .mk k n s t l => by
    by_cases h8 : k = 8
    · subst h8
      have e1 : vaTidy (.mk 8 n s t l) = .mk 8 0 ByteArray.empty .zero (vaTidyAll l) := by unfold vaTidy; simp
      have e2 : valueOf c (.mk 8 n s t l) = .group (attrsOf c l).full := by unfold valueOf; simp
      rw [e1, e2]
      have := len_full c l
      unfold GVal.stays
      cases hf : (attrsOf c l).full with
      | nil => rw [hf] at this; simp [SVal.isEmptyGroup, SAttrs.len] at this ⊢; exact this
      | cons key v r => rw [hf] at this; simp [SVal.isEmptyGroup, SAttrs.len] at this ⊢; omega
    · have e1 : (vaTidy (.mk k n s t l)).stays = true := by
        have hk := tidy_kind (.mk k n s t l)
        generalize vaTidy (.mk k n s t l) = d at hk ⊢
        obtain ⟨k', n', s', t', l'⟩ := d
        simp only [kind_mk] at hk
        subst hk
        simp [GVal.stays, h8]
      rw [e1]
      have e2 : ∀ m, valueOf c (.mk k n s t l) ≠ .group m := by
        intro m h
        unfold valueOf at h
        rw [if_neg h8] at h
        repeat' split at h
        all_goals cases h
      cases hv : valueOf c (.mk k n s t l) with
      | group m => exact absurd hv (e2 m)
      | _ => rfl
theorem len_full (c : Option Addr) : ∀ l : GAttrs, (vaTidyAll l).len = (attrsOf c l).full.len
  | .nil => by simp only [vaTidyAll, attrsOf, SAttrs.full, GAttrs.len, SAttrs.len]
  | .cons key v r => by
    simp only [vaTidyAll, attrsOf, SAttrs.full]
    rw [stays_full c v]
    cases (valueOf c v).isEmptyGroup with
    | true => simpa using len_full c r
    | false => simpa [GAttrs.len, SAttrs.len] using len_full c r
end

theorem full_kept (c : Option Addr) : ∀ l : GAttrs, (attrsOf c l).full = attrsOf c (kept l)
  | .nil => by simp only [attrsOf, SAttrs.full, kept]
  | .cons key v r => by
    simp only [attrsOf, SAttrs.full, kept]
    rw [stays_full c v]
    cases (valueOf c v).isEmptyGroup with
    | true => simpa using full_kept c r
    | false => simpa [attrsOf] using full_kept c r

theorem kept_all {p : GVal → Prop} : ∀ l : GAttrs, GAttrs.all p l → GAttrs.all p (kept l)
  | .nil, h => h
  | .cons key v r, h => by
    unfold kept
    split
    · exact ⟨h.1, kept_all r h.2⟩
    · exact kept_all r h.2
theorem good_all : ∀ (l : GAttrs) (N : Nat), l.size ≤ N → goodAll l → GAttrs.all (fun v => good v ∧ v.size ≤ N) l
  | .nil, _, _, _ => trivial
  | .cons key v r, N, hN, h => by
    unfold goodAll at h
    unfold GAttrs.size at hN
    exact ⟨⟨h.1, by omega⟩, good_all r N (by omega) h.2⟩
theorem len_tidyMap : ∀ l : GAttrs, (tidyMap l).len = l.len
  | .nil => rfl
  | .cons _ _ r => by simp only [tidyMap, GAttrs.len]; rw [len_tidyMap r]

theorem head_cons (k : ByteArray) (v : GVal) (r : GAttrs) : (GAttrs.cons k v r).head = k := rfl

theorem ptidy_any0 (n : Int) (s : ByteArray) (t : GTime) (l : GAttrs) : vaTidy (.mk 0 n s t l) = if n = 6 ∨ n = 7 ∨ n = 8 then .mk 0 n ByteArray.empty ⟨t.sec, 0, 0⟩ .nil
      else if n = 13 then .mk 0 n s ⟨t.sec, 0, 0⟩ (.cons l.head GVal.zero .nil)
      else if n = 15 then .mk 0 n s .zero (.cons l.head GVal.zero .nil)
      else if n = 0 ∨ n = 12 ∨ n = 14 then .mk 0 n ByteArray.empty .zero .nil
      else .mk 0 n s .zero .nil := by
  unfold vaTidy
  rw [if_pos rfl]
theorem pvalueOf_any0 (c : Option Addr) (n : Int) (s : ByteArray) (t : GTime) (l : GAttrs) : valueOf c (.mk 0 n s t l) = .any (anyOf n s t l) := by
  unfold valueOf
  rfl
theorem ptidy_n0 (n : Int) (s : ByteArray) (t : GTime) (l : GAttrs) : ∃ s1 t1 l1, vaTidy (.mk 0 n s t l) = .mk 0 n s1 t1 l1 := by
  rw [ptidy_any0]
  repeat' split
  all_goals exact ⟨_, _, _, rfl⟩

theorem size_kept : ∀ l : GAttrs, (kept l).size ≤ l.size
  | .nil => Nat.le_refl _
  | .cons key v r => by
    have := size_kept r
    unfold kept
    split
    · simp only [GAttrs.size]; omega
    · simp only [GAttrs.size]; omega
theorem goodAll_kept : ∀ l : GAttrs, goodAll l → goodAll (kept l)
  | .nil, h => h
  | .cons key v r, h => by
    unfold goodAll at h
    unfold kept
    split
    · unfold goodAll; exact ⟨h.1, goodAll_kept r h.2⟩
    · exact goodAll_kept r h.2
theorem all_of {p : GVal → Prop} (N : Nat) : ∀ (l : GAttrs), l.size ≤ N → goodAll l → GAttrs.wf l → (∀ v : GVal, v.size ≤ N → good v → v.wf → p v) → GAttrs.all p l
  | .nil, _, _, _, _ => trivial
  | .cons key v r, hN, h, hw, hp => by
    unfold goodAll at h
    unfold GAttrs.wf at hw
    unfold GAttrs.size at hN
    exact ⟨hp v (by omega) h.1 hw.2.1, all_of N r (by omega) h.2 hw.2.2 hp⟩
theorem wf_kept : ∀ l : GAttrs, GAttrs.wf l → GAttrs.wf (kept l)
  | .nil, h => h
  | .cons key v r, h => by
    unfold GAttrs.wf at h
    unfold kept
    split
    · unfold GAttrs.wf; exact ⟨h.1, h.2.1, wf_kept r h.2.2⟩
    · exact wf_kept r h.2.2

theorem ptidy_num {k : Int} (hk : k = 1 ∨ k = 2 ∨ k = 3 ∨ k = 4 ∨ k = 7) (n : Int) (s : ByteArray) (t : GTime) (l : GAttrs) : vaTidy (.mk k n s t l) = .mk k n ByteArray.empty .zero .nil := by
  rcases hk with rfl | rfl | rfl | rfl | rfl <;> (unfold vaTidy; simp)
theorem pvalue_num (c : Option Addr) {k : Int} (hk : k = 1 ∨ k = 2 ∨ k = 3 ∨ k = 4 ∨ k = 7) (n : Int) (h0 : 0 ≤ n) (h1 : k = 1 → n ≤ 1) (s : ByteArray) (t : GTime) (l : GAttrs) : valueOf c (.mk k n s t l) = .num k n := by
  rcases hk with rfl | rfl | rfl | rfl | rfl
  · have := h1 rfl
    have : n % 2 = n := by omega
    unfold valueOf; simp [this]
  all_goals (unfold valueOf; simp)
theorem ptidy_str (n : Int) (s : ByteArray) (t : GTime) (l : GAttrs) : vaTidy (.mk 5 n s t l) = .mk 5 0 s .zero .nil := by unfold vaTidy; simp
theorem pvalue_str (c : Option Addr) (n : Int) (s : ByteArray) (t : GTime) (l : GAttrs) : valueOf c (.mk 5 n s t l) = .str s := by unfold valueOf; simp
theorem ptidy_time (n : Int) (s : ByteArray) (t : GTime) (l : GAttrs) : vaTidy (.mk 6 n s t l) = .mk 6 0 ByteArray.empty t .nil := by unfold vaTidy; simp
theorem pvalue_time (c : Option Addr) (n : Int) (s : ByteArray) (t : GTime) (l : GAttrs) : valueOf c (.mk 6 n s t l) = .time t := by unfold valueOf; simp
theorem ptidy_grp (n : Int) (s : ByteArray) (t : GTime) (l : GAttrs) : vaTidy (.mk 8 n s t l) = .mk 8 0 ByteArray.empty .zero (vaTidyAll l) := by unfold vaTidy; simp
theorem pvalue_grp (c : Option Addr) (n : Int) (s : ByteArray) (t : GTime) (l : GAttrs) : valueOf c (.mk 8 n s t l) = .group (attrsOf c l).full := by unfold valueOf; simp
theorem ptidy_lv (n : Int) (s : ByteArray) (t : GTime) (l : GAttrs) : ∃ l1, vaTidy (.mk 9 n s t l) = .mk 9 n s .zero l1 := ⟨if s.size = 0 then .cons ByteArray.empty (vaEnd l) .nil else .nil, by unfold vaTidy; rfl⟩
theorem pvalue_lv (c : Option Addr) (n : Int) (s : ByteArray) (t : GTime) (l : GAttrs) : valueOf c (.mk 9 n s t l) = if s.size = 0 then .valuer n (headOf c l) c else .throws s c := by unfold valueOf; simp
theorem size_zero {s : ByteArray} : s.size = 0 ↔ s = ByteArray.empty := ⟨empty_of_size, fun h => by rw [h]; rfl⟩

theorem value_kind (c : Option Addr) : ∀ d : GVal, good d → (valueOf c d).kind = d.kind
  | .mk k n s t l, h => by
    unfold good at h
    obtain ⟨h0, h9, _⟩ := h
    have : k = 0 ∨ k = 1 ∨ k = 2 ∨ k = 3 ∨ k = 4 ∨ k = 5 ∨ k = 6 ∨ k = 7 ∨ k = 8 ∨ k = 9 := by omega
    rcases this with rfl | rfl | rfl | rfl | rfl | rfl | rfl | rfl | rfl | rfl
    · rw [pvalueOf_any0]; rfl
    all_goals first
      | (rw [pvalue_str]; rfl)
      | (rw [pvalue_time]; rfl)
      | (rw [pvalue_grp]; rfl)
      | (rw [pvalue_lv]; split <;> rfl)
      | (unfold valueOf; rfl)

mutual
theorem tsize : ∀ d : GVal, (vaTidy d).size ≤ 2 * d.size
  | .mk k n s t l => by
    have hl := tsizeAll l
    have he := tsizeEnd l
    unfold vaTidy
    repeat' split
    all_goals (simp only [GVal.size, GAttrs.size, GVal.zero]; omega)
theorem tsizeEnd : ∀ l : GAttrs, (vaEnd l).size ≤ 2 * l.size + 1
  | .nil => by simp only [vaEnd, GVal.zero, GVal.size, GAttrs.size]; omega
  | .cons key v r => by have := tsize v; simp only [vaEnd, GAttrs.size]; omega
theorem tsizeAll : ∀ l : GAttrs, (vaTidyAll l).size ≤ 2 * l.size
  | .nil => by simp only [vaTidyAll, GAttrs.size]; omega
  | .cons key v r => by
    have h1 := tsize v
    have h2 := tsizeAll r
    unfold vaTidyAll
    split
    · simp only [GAttrs.size]; omega
    · simp only [GAttrs.size]; omega
end

theorem len_attrsOf (c : Option Addr) : ∀ l : GAttrs, (attrsOf c l).len = l.len
  | .nil => by simp only [attrsOf, SAttrs.len, GAttrs.len]
  | .cons _ _ r => by simp only [attrsOf, SAttrs.len, GAttrs.len]; rw [len_attrsOf c r]

end Go.Proofs.YtihhgnbgejjijaaGreatDoor.Va

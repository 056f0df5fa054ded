/- What the bound on arguments (spec.RcLeft) says of them, in plain Lean. -/
import Derived.Test.YtdeomgfapffidaaGreatDoorArgSl
import Derived.Test.YtdeomgfapffidaaGreatDoorMadeP
import Derived.Test.YtdeomgfapffidaaGreatDoorResP
namespace Go.Proofs.YtdeomgfapffidaaGreatDoor.Va
set_option linter.unusedVariables false
set_option linter.unusedSimpArgs false
open Go Go.RowKit

def argsGood : List GArg → Prop
  | [] => True
  | a :: r => (0 ≤ a.what ∧ a.what ≤ 2) ∧ good a.val ∧ argsGood r
def pairsT : Bool → List GArg → Prop
  | _, [] => True
  | t, a :: r => ¬ (t = true ∧ a.what = 0) ∧ pairsT (!t && decide (a.what = 1) && decide (a.val.kind = 5)) r
theorem rcLeft_good : ∀ (l : List GArg) (t : Bool) (left : Int), 0 ≤ rcLeft l t left → argsGood l ∧ pairsT t l ∧ (argsSize l : Int) + rcLeft l t left ≤ left
  | [], _, left, _ => ⟨trivial, trivial, by simp only [argsSize, rcLeft]; omega⟩
  | a :: r, t, left, h => by
    by_cases h1 : left - a.key.size < 0 ∨ a.what < 0 ∨ 2 < a.what ∨ (t = true ∧ a.what = 0)
    · rw [rcLeft_no h1] at h; omega
    · by_cases h2 : vaLeft a.val 20 (left - a.key.size) < 0
      · rw [rcLeft_val h1 h2] at h; omega
      · rw [rcLeft_on h1 h2] at h ⊢
        obtain ⟨g, gs⟩ := left_good a.val 20 (left - a.key.size) (by omega)
        obtain ⟨i1, i2, i3⟩ := rcLeft_good r _ _ h
        refine ⟨⟨⟨?_, ?_⟩, g, i1⟩, ⟨fun e => h1 (.inr (.inr (.inr e))), i2⟩, ?_⟩
        · have : ¬ a.what < 0 := fun e => h1 (.inr (.inl e)); omega
        · have : ¬ 2 < a.what := fun e => h1 (.inr (.inr (.inl e))); omega
        · simp only [argsSize]; push_cast; omega
theorem pairsT_pairs : ∀ l : List GArg, pairsT false l → pairsOk l
  | [], _ => trivial
  | [_], _ => trivial
  | a :: b :: r, h => by
    unfold pairsOk
    by_cases hk : a.what = 1 ∧ a.val.kind = 5
    · rw [if_pos hk]
      have h2 := h.2
      simp only [hk.1, hk.2, decide_true, Bool.not_false, Bool.and_self] at h2
      exact ⟨fun e => h2.1 ⟨rfl, e⟩, pairsT_pairs r (by have := h2.2; simpa using this)⟩
    · rw [if_neg hk]
      have h2 := h.2
      have e : (!false && decide (a.what = 1) && decide (a.val.kind = 5)) = false := by
        by_cases h1 : a.what = 1
        · have : ¬ a.val.kind = 5 := fun e => hk ⟨h1, e⟩
          simp [this]
        · simp [h1]
      rw [e] at h2
      exact pairsT_pairs (b :: r) h2
theorem argsOk_of : ∀ l : List GArg, argsGood l → argsSize l ≤ 65536 → argsOk l
  | [], _, _ => trivial
  | a :: r, h, hs => by
    simp only [argsSize] at hs
    exact ⟨h.1, by omega, argsOk_of r h.2.2 (by omega)⟩
theorem args_len : ∀ l : List GArg, l.length ≤ argsSize l
  | [] => Nat.le_refl _
  | a :: r => by
    have := args_len r
    have := size_pos a.val
    simp only [List.length_cons, argsSize]
    omega
theorem rcRaw_size : ∀ l : List GArg, (rcRaw l).size ≤ argsSize l ∧ (rcRaw l).len ≤ l.length
  | [] => ⟨by simp [rcRaw, GAttrs.size], by simp [rcRaw, GAttrs.len]⟩
  | [a] => by simp only [rcRaw, GAttrs.size, GAttrs.len, argsSize, List.length_cons, List.length_nil]; omega
  | a :: b :: r => by
    obtain ⟨h1, h2⟩ := rcRaw_size (b :: r)
    obtain ⟨h3, h4⟩ := rcRaw_size r
    rw [rcRaw]
    simp only [argsSize, List.length_cons] at h1 h2 ⊢
    repeat' split
    all_goals (simp only [GAttrs.size, GAttrs.len]; omega)
theorem rcRaw_good : ∀ l : List GArg, argsGood l → goodAll (rcRaw l)
  | [], _ => by simp only [rcRaw]; unfold goodAll; trivial
  | [a], h => by simp only [rcRaw]; unfold goodAll goodAll; exact ⟨h.2.1, trivial⟩
  | a :: b :: r, h => by
    have h1 := rcRaw_good (b :: r) h.2.2
    have h2 := rcRaw_good r h.2.2.2.2
    rw [rcRaw]
    repeat' split
    all_goals unfold goodAll
    · exact ⟨h.2.1, h1⟩
    · exact ⟨h.2.2.2.1, h2⟩
    · exact ⟨h.2.1, h1⟩
theorem wf_s {v : GVal} (h : v.wf) : v.s.size ≤ 140737488355328 := by
  obtain ⟨k, n, s, t, l⟩ := v
  unfold GVal.wf at h
  exact h.2.2.1
theorem badKey_size : badKey.size ≤ 140737488355328 := by show (7 : Nat) ≤ _; omega
theorem rcRaw_wf : ∀ l : List GArg, argsWf l → (rcRaw l).wf
  | [], _ => by simp only [rcRaw]; unfold GAttrs.wf; trivial
  | [a], h => by
    simp only [rcRaw]
    unfold GAttrs.wf GAttrs.wf
    refine ⟨?_, h.1.2.2, trivial⟩
    split
    · exact h.1.2.1
    · exact badKey_size
  | a :: b :: r, h => by
    have h1 := rcRaw_wf (b :: r) h.2
    have h2 := rcRaw_wf r h.2.2
    rw [rcRaw]
    repeat' split
    all_goals unfold GAttrs.wf
    · exact ⟨h.1.2.1, h.1.2.2, h1⟩
    · exact ⟨wf_s h.1.2.2, h.2.1.2.2, h2⟩
    · exact ⟨badKey_size, h.1.2.2, h1⟩

theorem tidyAll_map : ∀ m : GAttrs, vaTidyAll (tidyMap m) = vaTidyAll m
  | .nil => rfl
  | .cons k v r => by
    have ih := tidyAll_map r
    simp only [tidyMap]
    have ht := tidy_tidy v
    cases hs : (vaTidy v).stays with
    | true => rw [tidyAll_stay hs, tidyAll_stay (by rw [ht]; exact hs), ht, ih]
    | false => rw [tidyAll_go hs, tidyAll_go (by rw [ht]; exact hs), ih]

theorem zero_size : GVal.zero.size = 1 := by simp [GVal.zero, GVal.size, GAttrs.size]
mutual
theorem tidy_gsize : ∀ d : GVal, (vaTidy d).size ≤ 2 * d.size
  | .mk k n s t l => by
    have h1 := tidyAll_gsize l
    have h2 := tidyEnd_gsize l
    have hz := zero_size
    unfold vaTidy
    repeat' split
    all_goals (simp only [GVal.size, GAttrs.size, hz]; omega)
theorem tidyEnd_gsize : ∀ l : GAttrs, (vaEnd l).size ≤ 2 * l.size + 1
  | .nil => by rw [vaEnd, zero_size]; omega
  | .cons k v r => by
    have h := tidy_gsize v
    rw [vaEnd]
    simp only [GAttrs.size]
    omega
theorem tidyAll_gsize : ∀ l : GAttrs, (vaTidyAll l).size ≤ 2 * l.size
  | .nil => by simp [vaTidyAll, GAttrs.size]
  | .cons k v r => by
    have h1 := tidy_gsize v
    have h2 := tidyAll_gsize r
    rw [vaTidyAll]
    split
    all_goals (simp only [GAttrs.size]; omega)
end
theorem tidy_gsize_map : ∀ m : GAttrs, (tidyMap m).size ≤ 2 * m.size
  | .nil => by simp [tidyMap, GAttrs.size]
  | .cons k v r => by
    have h1 := tidy_gsize v
    have h2 := tidy_gsize_map r
    simp only [tidyMap, GAttrs.size]
    omega

end Go.Proofs.YtdeomgfapffidaaGreatDoor.Va

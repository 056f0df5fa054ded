/- What Resolve comes to, of the values that the statements speak of, in plain Lean. No program in sight. -/
import Derived.Test.YtihhgnbgejjijaaGreatDoorRes2
import Derived.Test.YtihhgnbgejjijaaGreatDoorMadeP
namespace Go.Proofs.YtihhgnbgejjijaaGreatDoor.Va
set_option linter.unusedVariables false
set_option linter.unusedSimpArgs false
open Go Go.RowKit

/-- The value that a LogValuer gives. -/
def nextD : GVal → GVal
  | .mk _ n s t l => if n ≤ 1 then l.headVal else .mk 9 (n - 1) s t l
theorem nextD_mk (k n : Int) (s : ByteArray) (t : GTime) (l : GAttrs) : nextD (.mk k n s t l) = if n ≤ 1 then l.headVal else .mk 9 (n - 1) s t l := rfl
inductive OutD where
  | val (d : GVal) (calls : Nat)
  | pan (calls : Nat)
  | much
def resolveD : Nat → GVal → Nat → OutD
  | 0, _, _ => .much
  | f + 1, d, c => if d.kind = 9 then (if d.s.size = 0 then resolveD f (nextD d) (c + 1) else .pan (c + 1)) else .val d c

theorem headVal_good : ∀ l : GAttrs, goodAll l → good l.headVal
  | .nil, _ => by
    unfold GAttrs.headVal GVal.zero good
    exact ⟨by omega, by omega, fun _ => by omega, fun h => by omega, fun h => by omega, fun h => by omega, by unfold goodAll; trivial⟩
  | .cons k v r, h => by unfold goodAll at h; exact h.1
theorem zero_wf : GVal.zero.wf := by
  unfold GVal.zero GVal.wf
  exact ⟨by omega, by omega, Nat.zero_le _, by decide, by decide, by decide, by simp [GAttrs.len], by unfold GAttrs.wf; trivial⟩
theorem headVal_wf : ∀ l : GAttrs, GAttrs.wf l → l.headVal.wf
  | .nil, _ => zero_wf
  | .cons k v r, h => by unfold GAttrs.wf at h; exact h.2.1
theorem headVal_size : ∀ l : GAttrs, l.headVal.size ≤ l.size + 1
  | .nil => by simp [GAttrs.headVal, GVal.zero, GVal.size, GAttrs.size]
  | .cons k v r => by simp only [GAttrs.headVal, GAttrs.size]; omega
theorem head_value (c : Option Addr) : ∀ l : GAttrs, headOf c l = valueOf c l.headVal
  | .nil => by simp [headOf, GAttrs.headVal, GVal.zero, valueOf, anyOf]
  | .cons k v r => by simp [headOf, GAttrs.headVal]

/-- Such values as the chain has. -/
def GoodD (d : GVal) : Prop := good d ∧ d.wf ∧ d.size ≤ 300000
theorem next_good {d : GVal} (h : GoodD d) (hk : d.kind = 9) : GoodD (nextD d) := by
  obtain ⟨k, n, s, t, l⟩ := d
  obtain ⟨hg, hw, hs⟩ := h
  simp only [kind_mk] at hk
  subst hk
  have hg0 := hg
  unfold good at hg0
  unfold GVal.wf at hw
  rw [nextD_mk]
  simp only [GVal.size] at hs
  by_cases hn : n ≤ 1
  · rw [if_pos hn]
    exact ⟨headVal_good l hg0.2.2.2.2.2.2, headVal_wf l hw.2.2.2.2.2.2.2, by have := headVal_size l; omega⟩
  · rw [if_neg hn]
    refine ⟨?_, ?_, by simp only [GVal.size]; omega⟩
    · unfold good; exact ⟨by omega, by omega, fun h => by omega, fun h => by omega, fun h => by omega, fun _ => by omega, hg0.2.2.2.2.2.2⟩
    · unfold GVal.wf; exact ⟨hw.1, by omega, hw.2.2.1, hw.2.2.2.1, hw.2.2.2.2.1, hw.2.2.2.2.2.1, hw.2.2.2.2.2.2.1, hw.2.2.2.2.2.2.2⟩
theorem next_value (c : Option Addr) {d : GVal} (hk : d.kind = 9) (hs : d.s.size = 0) : ∃ n v, valueOf c d = .valuer n v c ∧ nextV (valueOf c d) = valueOf c (nextD d) := by
  obtain ⟨k, n, s, t, l⟩ := d
  simp only [kind_mk] at hk
  simp only [s_mk] at hs
  subst hk
  have e : valueOf c (.mk 9 n s t l) = .valuer n (headOf c l) c := by rw [pvalue_lv, if_pos hs]
  refine ⟨n, headOf c l, e, ?_⟩
  rw [e, nextD_mk]
  by_cases hn : n ≤ 1
  · rw [next_last hn, if_pos hn, head_value]
  · rw [next_more hn, if_neg hn, pvalue_lv, if_pos hs]

def outOf' (c : Option Addr) : OutD → Out
  | .val d k => .val (valueOf c d) k
  | .pan k => .pan k
  | .much => .much
theorem resolve_value (c : Option Addr) : ∀ (f : Nat) (d : GVal) (k : Nat), GoodD d → resolveS f (valueOf c d) k = outOf' c (resolveD f d k)
  | 0, _, _, _ => rfl
  | f + 1, d, k, h => by
    unfold resolveD
    have hvk := value_kind c d h.1
    by_cases hk : d.kind = 9
    · rw [if_pos hk]
      by_cases hs : d.s.size = 0
      · rw [if_pos hs]
        obtain ⟨n, v, e, hn⟩ := next_value c hk hs
        have h1 : resolveS (f + 1) (valueOf c d) k = resolveS f (nextV (valueOf c d)) (k + 1) := by rw [e]; rfl
        rw [h1, hn]
        exact resolve_value c f (nextD d) (k + 1) (next_good h hk)
      · rw [if_neg hs]
        obtain ⟨kk, n, s, t, l⟩ := d
        simp only [kind_mk] at hk
        subst hk
        simp only [s_mk] at hs
        rw [pvalue_lv, if_neg hs]
        rfl
    · rw [if_neg hk]
      have hvk' : ¬ (valueOf c d).kind = 9 := by rw [hvk]; exact hk
      show resolveS (f + 1) (valueOf c d) k = .val (valueOf c d) k
      clear hvk
      generalize valueOf c d = dv at hvk' ⊢
      cases dv with
      | valuer n v c => exact absurd rfl hvk'
      | throws s c => exact absurd rfl hvk'
      | _ => rfl

mutual
theorem chain_value (c : Option Addr) : ∀ d : GVal, d.wf → chainC c (valueOf c d)
  | .mk k n s t l, h => by
    unfold GVal.wf at h
    have hh := chain_head c l h.2.2.2.2.2.2.2
    unfold valueOf
    repeat' split
    all_goals first
      | exact ⟨rfl, h.2.1.2, hh⟩
      | rfl
      | trivial
theorem chain_head (c : Option Addr) : ∀ l : GAttrs, GAttrs.wf l → chainC c (headOf c l)
  | .nil, _ => by simp only [headOf]; trivial
  | .cons k v r, h => by unfold GAttrs.wf at h; simp only [headOf]; exact chain_value c v h.2.1
end

/-- The value at the end is one of the statements' own. -/
theorem resolve_good : ∀ (f : Nat) (d : GVal) (k : Nat) (d' : GVal) (k' : Nat), GoodD d → resolveD f d k = .val d' k' → GoodD d' ∧ ¬ d'.kind = 9
  | 0, _, _, _, _, _, e => by cases e
  | f + 1, d, k, d', k', h, e => by
    unfold resolveD at e
    by_cases hk : d.kind = 9
    · rw [if_pos hk] at e
      by_cases hs : d.s.size = 0
      · rw [if_pos hs] at e; exact resolve_good f _ _ d' k' (next_good h hk) e
      · rw [if_neg hs] at e; cases e
    · rw [if_neg hk] at e
      injection e with e1 e2
      subst e1
      exact ⟨h, hk⟩

/- Tidying twice. -/
theorem tidy_zero : vaTidy GVal.zero = GVal.zero := by simp [GVal.zero, vaTidy]
mutual
theorem tidy_tidy : ∀ d : GVal, vaTidy (vaTidy d) = vaTidy d
  | .mk k n s t l => by
    have hl := tidyAll_tidy l
    have he := tidyEnd_tidy l
    by_cases h0 : k = 0
    · subst h0
      rw [ptidy_any0]
      by_cases h6 : n = 6 ∨ n = 7 ∨ n = 8
      · rw [if_pos h6, ptidy_any0, if_pos h6]
      rw [if_neg h6]
      by_cases h13 : n = 13
      · subst h13; simp [ptidy_any0, head_cons]
      rw [if_neg h13]
      by_cases h15 : n = 15
      · subst h15; simp [ptidy_any0, head_cons]
      rw [if_neg h15]
      by_cases hz : n = 0 ∨ n = 12 ∨ n = 14
      · rw [if_pos hz, ptidy_any0, if_neg h6, if_neg h13, if_neg h15, if_pos hz]
      · rw [if_neg hz, ptidy_any0, if_neg h6, if_neg h13, if_neg h15, if_neg hz]
    by_cases h5 : k = 5
    · subst h5; rw [ptidy_str, ptidy_str]
    by_cases h6 : k = 6
    · subst h6; rw [ptidy_time, ptidy_time]
    by_cases h8 : k = 8
    · subst h8; rw [ptidy_grp, ptidy_grp, hl]
    by_cases h9 : k = 9
    · subst h9
      by_cases hs : s.size = 0
      · have e1 : vaTidy (.mk 9 n s t l) = .mk 9 n s .zero (.cons ByteArray.empty (vaEnd l) .nil) := by unfold vaTidy; simp [hs]
        have e2 : vaTidy (.mk 9 n s .zero (.cons ByteArray.empty (vaEnd l) .nil)) = .mk 9 n s .zero (.cons ByteArray.empty (vaEnd (.cons ByteArray.empty (vaEnd l) .nil)) .nil) := by rw [vaTidy]; simp [hs]
        rw [e1, e2]
        have e3 : vaEnd (.cons ByteArray.empty (vaEnd l) .nil) = vaTidy (vaEnd l) := by simp only [vaEnd]
        rw [e3, he]
      · have e1 : ∀ t l, vaTidy (.mk 9 n s t l) = .mk 9 n s .zero .nil := by intro t l; unfold vaTidy; simp [hs]
        rw [e1, e1]
    · have e : ∀ n s t l, vaTidy (.mk k n s t l) = .mk k n ByteArray.empty .zero .nil := by intro n s t l; simp [vaTidy, h0, h5, h6, h8, h9]
      rw [e, e]
theorem tidyEnd_tidy : ∀ l : GAttrs, vaTidy (vaEnd l) = vaEnd l
  | .nil => by simp only [vaEnd]; exact tidy_zero
  | .cons k v r => by simp only [vaEnd]; exact tidy_tidy v
theorem tidyAll_tidy : ∀ l : GAttrs, vaTidyAll (vaTidyAll l) = vaTidyAll l
  | .nil => by simp only [vaTidyAll]
  | .cons k v r => by
    have h1 := tidy_tidy v
    have h2 := tidyAll_tidy r
    by_cases hs : (vaTidy v).stays = true
    · rw [tidyAll_stay hs]
      have hs' : (vaTidy (vaTidy v)).stays = true := by rw [h1]; exact hs
      rw [tidyAll_stay hs', h1, h2]
    · have hs' : (vaTidy v).stays = false := by simpa using hs
      rw [tidyAll_go hs', h2]
end

end Go.Proofs.YtihhgnbgejjijaaGreatDoor.Va

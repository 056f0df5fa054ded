/- What the bound on arguments (spec.RcLeft) says of them, in plain Lean. -/
import Derived.Test.YtihhgnbgejjijaaGreatDoorArgSl
import Derived.Test.YtihhgnbgejjijaaGreatDoorMadeP
import Derived.Test.YtihhgnbgejjijaaGreatDoorResP
import Derived.Test.YtihhgnbgejjijaaGreatDoorSameB
namespace Go.Proofs.YtihhgnbgejjijaaGreatDoor.Va
set_option linter.unusedVariables false
set_option linter.unusedSimpArgs false
open Go Go.RowKit

def argsGood : List GArg → Prop
  | [] => True
  | a :: r => (0 ≤ a.what ∧ a.what ≤ 2) ∧ good a.val ∧ argsGood r
def pairsT : Bool → List GArg → Prop
  | _, [] => True
  | t, a :: r => ¬ (t = true ∧ a.what = 0) ∧ pairsT (!t && decide (a.what = 1) && decide (a.val.kind = 5)) r
theorem rcLeft_good : ∀ (l : List GArg) (t : Bool) (left : Int), 0 ≤ rcLeft l t left → argsGood l ∧ pairsT t l ∧ (argsSize l : Int) + rcLeft l t left ≤ left
  | [], _, left, _ => ⟨trivial, trivial, by simp only [argsSize, rcLeft]; omega⟩
  | a :: r, t, left, h => by
    by_cases h1 : left - a.key.size < 0 ∨ a.what < 0 ∨ 2 < a.what ∨ (t = true ∧ a.what = 0)
    · rw [rcLeft_no h1] at h; omega
    · by_cases h2 : vaLeft a.val 20 (left - a.key.size) < 0
      · rw [rcLeft_val h1 h2] at h; omega
      · rw [rcLeft_on h1 h2] at h ⊢
        obtain ⟨g, gs⟩ := left_good a.val 20 (left - a.key.size) (by omega)
        obtain ⟨i1, i2, i3⟩ := rcLeft_good r _ _ h
        refine ⟨⟨⟨?_, ?_⟩, g, i1⟩, ⟨fun e => h1 (.inr (.inr (.inr e))), i2⟩, ?_⟩
        · have : ¬ a.what < 0 := fun e => h1 (.inr (.inl e)); omega
        · have : ¬ 2 < a.what := fun e => h1 (.inr (.inr (.inl e))); omega
        · simp only [argsSize]; push_cast; omega
theorem pairsT_pairs : ∀ l : List GArg, pairsT false l → pairsOk l
  | [], _ => trivial
  | [_], _ => trivial
  | a :: b :: r, h => by
    unfold pairsOk
    by_cases hk : a.what = 1 ∧ a.val.kind = 5
    · rw [if_pos hk]
      have h2 := h.2
      simp only [hk.1, hk.2, decide_true, Bool.not_false, Bool.and_self] at h2
      exact ⟨fun e => h2.1 ⟨rfl, e⟩, pairsT_pairs r (by have := h2.2; simpa using this)⟩
    · rw [if_neg hk]
      have h2 := h.2
      have e : (!false && decide (a.what = 1) && decide (a.val.kind = 5)) = false := by
        by_cases h1 : a.what = 1
        · have : ¬ a.val.kind = 5 := fun e => hk ⟨h1, e⟩
          simp [this]
        · simp [h1]
      rw [e] at h2
      exact pairsT_pairs (b :: r) h2
theorem argsOk_of : ∀ l : List GArg, argsGood l → argsSize l ≤ 65536 → argsOk l
  | [], _, _ => trivial
  | a :: r, h, hs => by
    simp only [argsSize] at hs
    exact ⟨h.1, by omega, argsOk_of r h.2.2 (by omega)⟩
theorem args_len : ∀ l : List GArg, l.length ≤ argsSize l
  | [] => Nat.le_refl _
  | a :: r => by
    have := args_len r
    have := size_pos a.val
    simp only [List.length_cons, argsSize]
    omega
theorem rcRaw_size : ∀ l : List GArg, (rcRaw l).size ≤ argsSize l ∧ (rcRaw l).len ≤ l.length
  | [] => ⟨by simp [rcRaw, GAttrs.size], by simp [rcRaw, GAttrs.len]⟩
  | [a] => by simp only [rcRaw, GAttrs.size, GAttrs.len, argsSize, List.length_cons, List.length_nil]; omega
  | a :: b :: r => by
    obtain ⟨h1, h2⟩ := rcRaw_size (b :: r)
    obtain ⟨h3, h4⟩ := rcRaw_size r
    rw [rcRaw]
    simp only [argsSize, List.length_cons] at h1 h2 ⊢
    repeat' split
    all_goals (simp only [GAttrs.size, GAttrs.len]; omega)
theorem rcRaw_good : ∀ l : List GArg, argsGood l → goodAll (rcRaw l)
  | [], _ => by simp only [rcRaw]; unfold goodAll; trivial
  | [a], h => by simp only [rcRaw]; unfold goodAll goodAll; exact ⟨h.2.1, trivial⟩
  | a :: b :: r, h => by
    have h1 := rcRaw_good (b :: r) h.2.2
    have h2 := rcRaw_good r h.2.2.2.2
    rw [rcRaw]
    repeat' split
    all_goals unfold goodAll
    · exact ⟨h.2.1, h1⟩
    · exact ⟨h.2.2.2.1, h2⟩
    · exact ⟨h.2.1, h1⟩
theorem wf_s {v : GVal} (h : v.wf) : v.s.size ≤ 140737488355328 := by
  obtain ⟨k, n, s, t, l⟩ := v
  unfold GVal.wf at h
  exact h.2.2.1
theorem badKey_size : badKey.size ≤ 140737488355328 := by show (7 : Nat) ≤ _; omega
theorem rcRaw_wf : ∀ l : List GArg, argsWf l → (rcRaw l).wf
  | [], _ => by simp only [rcRaw]; unfold GAttrs.wf; trivial
  | [a], h => by
    simp only [rcRaw]
    unfold GAttrs.wf GAttrs.wf
    refine ⟨?_, h.1.2.2, trivial⟩
    split
    · exact h.1.2.1
    · exact badKey_size
  | a :: b :: r, h => by
    have h1 := rcRaw_wf (b :: r) h.2
    have h2 := rcRaw_wf r h.2.2
    rw [rcRaw]
    repeat' split
    all_goals unfold GAttrs.wf
    · exact ⟨h.1.2.1, h.1.2.2, h1⟩
    · exact ⟨wf_s h.1.2.2, h.2.1.2.2, h2⟩
    · exact ⟨badKey_size, h.1.2.2, h1⟩

theorem tidyAll_map : ∀ m : GAttrs, vaTidyAll (tidyMap m) = vaTidyAll m
  | .nil => rfl
  | .cons k v r => by
    have ih := tidyAll_map r
    simp only [tidyMap]
    have ht := tidy_tidy v
    cases hs : (vaTidy v).stays with
    | true => rw [tidyAll_stay hs, tidyAll_stay (by rw [ht]; exact hs), ht, ih]
    | false => rw [tidyAll_go hs, tidyAll_go (by rw [ht]; exact hs), ih]

theorem zero_size : GVal.zero.size = 1 := by simp [GVal.zero, GVal.size, GAttrs.size]
mutual
theorem tidy_gsize : ∀ d : GVal, (vaTidy d).size ≤ 2 * d.size
  | .mk k n s t l => by
    have h1 := tidyAll_gsize l
    have h2 := tidyEnd_gsize l
    have hz := zero_size
    unfold vaTidy
    repeat' split
    all_goals (simp only [GVal.size, GAttrs.size, hz]; omega)
theorem tidyEnd_gsize : ∀ l : GAttrs, (vaEnd l).size ≤ 2 * l.size + 1
  | .nil => by rw [vaEnd, zero_size]; omega
  | .cons k v r => by
    have h := tidy_gsize v
    rw [vaEnd]
    simp only [GAttrs.size]
    omega
theorem tidyAll_gsize : ∀ l : GAttrs, (vaTidyAll l).size ≤ 2 * l.size
  | .nil => by simp [vaTidyAll, GAttrs.size]
  | .cons k v r => by
    have h1 := tidy_gsize v
    have h2 := tidyAll_gsize r
    rw [vaTidyAll]
    split
    all_goals (simp only [GAttrs.size]; omega)
end
theorem tidy_gsize_map : ∀ m : GAttrs, (tidyMap m).size ≤ 2 * m.size
  | .nil => by simp [tidyMap, GAttrs.size]
  | .cons k v r => by
    have h1 := tidy_gsize v
    have h2 := tidy_gsize_map r
    simp only [tidyMap, GAttrs.size]
    omega

end Go.Proofs.YtihhgnbgejjijaaGreatDoor.Va

/- Rows of attributes joined, in plain Lean. -/
namespace Go.Proofs.YtihhgnbgejjijaaGreatDoor.Va
set_option linter.unusedVariables false
set_option linter.unusedSimpArgs false
open Go Go.RowKit

theorem sappend_assoc : ∀ a b c : SAttrs, SAttrs.append (SAttrs.append a b) c = SAttrs.append a (SAttrs.append b c)
  | .nil, _, _ => rfl
  | .cons k v r, b, c => by show SAttrs.cons k v (SAttrs.append (SAttrs.append r b) c) = SAttrs.cons k v _; rw [sappend_assoc r b c]
theorem ssnoc_eq (k : ByteArray) (v : SVal) : ∀ l : SAttrs, SAttrs.snoc l k v = SAttrs.append l (.cons k v .nil)
  | .nil => rfl
  | .cons k' v' r => by show SAttrs.cons k' v' (SAttrs.snoc r k v) = SAttrs.cons k' v' _; rw [ssnoc_eq k v r]
theorem full_append : ∀ a b : SAttrs, (SAttrs.append a b).full = SAttrs.append a.full b.full
  | .nil, _ => rfl
  | .cons k v r, b => by
    have ih := full_append r b
    show (SAttrs.cons k v (SAttrs.append r b)).full = _
    cases h : v.isEmptyGroup with
    | true => rw [full_go h, full_go h, ih]
    | false => rw [full_stay h, full_stay h, ih]; rfl

end Go.Proofs.YtihhgnbgejjijaaGreatDoor.Va

/- What is the same as something is the same as itself, in plain Lean. -/
namespace Go.Proofs.YtihhgnbgejjijaaGreatDoor.Va
set_option linter.unusedVariables false
set_option linter.unusedSimpArgs false
open Go Go.RowKit

mutual
theorem same_left : ∀ a b : GVal, Same a b → Same a a
  | .mk k n s t l, .mk k' n' s' t' l', h => by
    unfold Same at h ⊢
    obtain ⟨rfl, h⟩ := h
    refine ⟨rfl, ?_⟩
    by_cases h0 : k = 0
    · rw [if_pos h0]
      refine ⟨rfl, ?_⟩
      repeat' split
      all_goals simp
    · rw [if_neg h0] at h ⊢
      by_cases h5 : k = 5
      · rw [if_pos h5]
      · rw [if_neg h5] at h ⊢
        by_cases h6 : k = 6
        · rw [if_pos h6]
        · rw [if_neg h6] at h ⊢
          by_cases h8 : k = 8
          · rw [if_pos h8] at h ⊢
            exact sameL_left l l' h
          · rw [if_neg h8] at h ⊢
            by_cases h9 : k = 9
            · rw [if_pos h9] at h ⊢
              refine ⟨rfl, ?_⟩
              rcases h.2 with h | h
              · exact .inl h
              · exact .inr ⟨rfl, sameE_left l l' h.2⟩
            · rw [if_neg h9]
theorem sameE_left : ∀ a b : GAttrs, SameE a b → SameE a a
  | .cons _ v _, .cons _ v' _, h => by
    unfold SameE at h ⊢
    exact same_left v v' h
  | .nil, _, h => by unfold SameE at h; exact h.elim
  | .cons _ _ _, .nil, h => by unfold SameE at h; exact h.elim
theorem sameL_left : ∀ a b : GAttrs, SameL a b → SameL a a
  | .nil, _, _ => by unfold SameL; trivial
  | .cons k v r, .cons k' v' r', h => by
    unfold SameL at h ⊢
    exact ⟨rfl, same_left v v' h.2.1, sameL_left r r' h.2.2⟩
  | .cons _ _ _, .nil, h => by unfold SameL at h; exact h.elim
end

end Go.Proofs.YtihhgnbgejjijaaGreatDoor.Va

/- Rows of arguments joined; keys and values in turn; what impl.Args tells: plain Lean. -/
namespace Go.Proofs.YtihhgnbgejjijaaGreatDoor.Va
set_option linter.unusedVariables false
set_option linter.unusedSimpArgs false
open Go Go.RowKit

/-- Does the last argument wait for its value? -/
def waits : Bool → List GArg → Bool
  | t, [] => t
  | t, a :: r => waits (!t && decide (a.what = 1) && decide (a.val.kind = 5)) r
theorem not_key {a : GArg} (hk : ¬ (a.what = 1 ∧ a.val.kind = 5)) (t : Bool) : (t && decide (a.what = 1) && decide (a.val.kind = 5)) = false := by
  by_cases h1 : a.what = 1
  · have : ¬ a.val.kind = 5 := fun e => hk ⟨h1, e⟩
    simp [this]
  · simp [h1]
theorem rcRaw_app : ∀ (a s : List GArg), waits false a = false → rcRaw (a ++ s) = (rcRaw a).append (rcRaw s)
  | [], s, _ => rfl
  | [a], s, h => by
    have hk : ¬ (a.what = 1 ∧ a.val.kind = 5) := fun e => by simp [waits, e.1, e.2] at h
    show rcRaw (a :: s) = _
    by_cases h0 : a.what = 0
    · rw [rcRaw_attr h0, rcRaw_attr h0]; rfl
    · rw [rcRaw_bad h0 hk, rcRaw_bad h0 hk]; rfl
  | a :: b :: r, s, h => by
    by_cases hk : a.what = 1 ∧ a.val.kind = 5
    · show rcRaw (a :: b :: (r ++ s)) = _
      have ih := rcRaw_app r s (by simpa [waits, hk.1, hk.2] using h)
      rw [rcRaw_pair hk.1 hk.2, rcRaw_pair hk.1 hk.2, ih]; rfl
    · have ih := rcRaw_app (b :: r) s (by rw [waits, not_key hk] at h; exact h)
      show rcRaw (a :: (b :: r ++ s)) = _
      by_cases h0 : a.what = 0
      · rw [rcRaw_attr h0, rcRaw_attr h0, ih]; rfl
      · rw [rcRaw_bad h0 hk, rcRaw_bad h0 hk, ih]; rfl
theorem pairsT_app : ∀ (a s : List GArg) (t : Bool), pairsT t (a ++ s) → pairsT (waits t a) s
  | [], _, _, h => h
  | a :: r, s, t, h => pairsT_app r s _ h.2
theorem argsGood_app : ∀ (a s : List GArg), argsGood a → argsGood s → argsGood (a ++ s)
  | [], _, _, h => h
  | _ :: r, s, h, k => ⟨h.1, h.2.1, argsGood_app r s h.2.2 k⟩
theorem argsWf_app : ∀ (a s : List GArg), argsWf a → argsWf s → argsWf (a ++ s)
  | [], _, _, h => h
  | _ :: r, s, h, k => ⟨h.1, argsWf_app r s h.2 k⟩
theorem argsSize_app : ∀ (a s : List GArg), argsSize (a ++ s) = argsSize a + argsSize s
  | [], s => by simp [argsSize]
  | a :: r, s => by
    have := argsSize_app r s
    simp only [List.cons_append, argsSize]
    omega
theorem attrsOf_app (c : Option Addr) : ∀ a b : GAttrs, attrsOf c (a.append b) = SAttrs.append (attrsOf c a) (attrsOf c b)
  | .nil, _ => by simp only [attrsOf]; rfl
  | .cons k v r, b => by
    show attrsOf c (.cons k v (r.append b)) = _
    simp only [attrsOf]
    rw [attrsOf_app c r b]; rfl
theorem attrsTold_app : ∀ a b : SAttrs, attrsTold (SAttrs.append a b) = (attrsTold a).append (attrsTold b)
  | .nil, _ => by simp only [attrsTold]; rfl
  | .cons k v r, b => by
    show attrsTold (.cons k v (SAttrs.append r b)) = _
    simp only [attrsTold]
    rw [attrsTold_app r b]; rfl

/-- What impl.Args tells of arguments. -/
def argsTold (l : List GArg) : GAttrs := attrsTold (attrsOf none (rcRaw l)).full
theorem argsTold_app (a s : List GArg) (h : waits false a = false) : argsTold (a ++ s) = (argsTold a).append (argsTold s) := by
  unfold argsTold
  rw [rcRaw_app a s h, attrsOf_app, full_append, attrsTold_app]
/-- What it tells is the attributes that the arguments are, without empty groups. -/
theorem argsTold_same (l : List GArg) (hg : argsGood l) (hw : argsWf l) (hlen : l.length ≤ 140737488355328) : SameL (argsTold l) (vaTidyAll (rcRaw l)) := by
  unfold argsTold
  have gr := rcRaw_good l hg
  have wr := rcRaw_wf l hw
  have hl := (rcRaw_size l).2
  generalize rcRaw l = m at *
  have hgd : good (.mk 8 0 ByteArray.empty .zero m) := by unfold good; exact ⟨by omega, by omega, fun h => by omega, fun h => by omega, fun h => by omega, fun h => by omega, gr⟩
  have hwd : (GVal.mk 8 0 ByteArray.empty .zero m).wf := by unfold GVal.wf; exact ⟨by omega, by omega, Nat.zero_le _, by decide, by decide, by decide, by omega, wr⟩
  have hP := made_size none _ (.mk 8 0 ByteArray.empty .zero m) (Nat.le_refl _) hwd hgd
  have e1 : told (.group (attrsOf none m).full) = .mk 8 0 ByteArray.empty .zero (attrsTold (attrsOf none m).full) := by simp only [told]
  have e2 : vaTidy (.mk 8 0 ByteArray.empty .zero m) = .mk 8 0 ByteArray.empty .zero (vaTidyAll m) := ptidy_grp _ _ _ _
  have e3 : valueOf none (.mk 8 0 ByteArray.empty .zero m) = .group (attrsOf none m).full := pvalue_grp _ _ _ _ _
  rw [e3, e1, e2] at hP
  unfold Same at hP
  simpa using hP.2
theorem argsTold_refl (l : List GArg) (hg : argsGood l) (hw : argsWf l) (hlen : l.length ≤ 140737488355328) : SameL (argsTold l) (argsTold l) := sameL_left _ _ (argsTold_same l hg hw hlen)
theorem argsTold_size (l : List GArg) : (argsTold l).size ≤ 4 * argsSize l := by
  unfold argsTold
  have h1 := told_vsizeAll (attrsOf none (rcRaw l)).full
  have h2 := vsize_full (attrsOf none (rcRaw l))
  have h3 := vsize_all none (rcRaw l)
  have h4 := (rcRaw_size l).1
  omega

/-- Keys and values in turn; the same as attributes. -/
def pairArgs (p : Bool) : GAttrs → List GArg
  | .nil => []
  | .cons k v r => ⟨1, ByteArray.empty, .mk 5 0 k .zero .nil⟩ :: ⟨if p then 1 else 2, ByteArray.empty, v⟩ :: pairArgs p r
def wholeArgs : GAttrs → List GArg
  | .nil => []
  | .cons k v r => ⟨0, k, v⟩ :: wholeArgs r
theorem pair_raw (p : Bool) : ∀ l : GAttrs, rcRaw (pairArgs p l) = l ∧ waits false (pairArgs p l) = false
  | .nil => ⟨rfl, rfl⟩
  | .cons k v r => by
    obtain ⟨h1, h2⟩ := pair_raw p r
    refine ⟨?_, ?_⟩
    · show rcRaw (⟨1, ByteArray.empty, .mk 5 0 k .zero .nil⟩ :: ⟨if p then 1 else 2, ByteArray.empty, v⟩ :: pairArgs p r) = _
      rw [rcRaw_pair rfl rfl, h1]; rfl
    · show waits _ (pairArgs p r) = false
      simpa [kind_mk] using h2
theorem whole_raw : ∀ l : GAttrs, rcRaw (wholeArgs l) = l ∧ waits false (wholeArgs l) = false
  | .nil => ⟨rfl, rfl⟩
  | .cons k v r => by
    obtain ⟨h1, h2⟩ := whole_raw r
    refine ⟨?_, ?_⟩
    · show rcRaw (⟨0, k, v⟩ :: wholeArgs r) = _
      rw [rcRaw_attr rfl, h1]
    · show waits _ (wholeArgs r) = false
      simpa using h2

end Go.Proofs.YtihhgnbgejjijaaGreatDoor.Va

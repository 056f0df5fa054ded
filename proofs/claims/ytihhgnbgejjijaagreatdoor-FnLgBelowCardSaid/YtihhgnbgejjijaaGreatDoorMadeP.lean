/- What is told of a value that was made is what the reference has of it, in plain Lean. No program in sight. -/
import Derived.Test.YtihhgnbgejjijaaGreatDoorSameB
import Derived.Test.YtihhgnbgejjijaaGreatDoorGood
import Derived.Test.YtihhgnbgejjijaaGreatDoorToldV
namespace Go.Proofs.YtihhgnbgejjijaaGreatDoor.Va
set_option linter.unusedVariables false
set_option linter.unusedSimpArgs false
open Go Go.RowKit

theorem made_any (n : Int) (s : ByteArray) (t : GTime) (l : GAttrs) (h0 : 0 ≤ n) (h : n < 16) : Same (told (.any (anyOf n s t l))) (vaTidy (.mk 0 n s t l)) := by
  have : n = 0 ∨ n = 1 ∨ n = 2 ∨ n = 3 ∨ n = 4 ∨ n = 5 ∨ n = 6 ∨ n = 7 ∨ n = 8 ∨ n = 9 ∨ n = 10 ∨ n = 11 ∨ n = 12 ∨ n = 13 ∨ n = 14 ∨ n = 15 := by omega
  have hx : (extraTold l.head).head = l.head := by
    unfold extraTold
    split
    · rename_i h; rw [empty_of_size h]; rfl
    · rfl
  rcases this with rfl | rfl | rfl | rfl | rfl | rfl | rfl | rfl | rfl | rfl | rfl | rfl | rfl | rfl | rfl | rfl <;> (rw [ptidy_any0]; simp [told, toldAny, anyOf, Same, GVal.zero, head_cons, hx])

theorem made_list (c : Option Addr) : ∀ m : GAttrs, GAttrs.all (fun v => Same (told (valueOf c v)) (vaTidy v)) m → SameL (attrsTold (attrsOf c m)) (tidyMap m)
  | .nil, _ => by simp only [attrsOf, attrsTold, tidyMap, SameL]
  | .cons key v r, h => by
    simp only [attrsOf, attrsTold, tidyMap, SameL]
    exact ⟨trivial, h.1, made_list c r h.2⟩

theorem same_zero : Same GVal.zero GVal.zero := by simp [GVal.zero, Same]

theorem made_size (c : Option Addr) : ∀ (N : Nat) (d : GVal), d.size ≤ N → d.wf → good d → Same (told (valueOf c d)) (vaTidy d)
  | 0, d, hN, _, _ => absurd hN (by have := size_pos d; omega)
  | N + 1, .mk k n s t l, hN, hw, hg => by
    have hg0 := hg
    unfold good at hg0
    unfold GVal.wf at hw
    obtain ⟨g0, g9, ga, gb, _, gc, gl⟩ := hg0
    have : k = 0 ∨ k = 5 ∨ k = 6 ∨ k = 8 ∨ k = 9 ∨ (k = 1 ∨ k = 2 ∨ k = 3 ∨ k = 4 ∨ k = 7) := by omega
    simp only [GVal.size] at hN
    rcases this with rfl | rfl | rfl | rfl | rfl | hn
    · rw [pvalueOf_any0]; exact made_any n s t l hw.2.1.1 (ga rfl)
    · rw [ptidy_str, pvalue_str]; simp [told, Same]
    · rw [ptidy_time, pvalue_time]; simp [told, Same]
    · rw [ptidy_grp, pvalue_grp, full_kept, tidyAll_kept]
      have hsk := size_kept l
      have h := made_list c (kept l) (all_of N _ (by omega) (goodAll_kept _ gl) (wf_kept _ hw.2.2.2.2.2.2.2) (fun v hv h1 h2 => made_size c N v hv h2 h1))
      simp [told, Same, h]
    · rw [pvalue_lv]
      by_cases hs : s.size = 0
      · rw [if_pos hs]
        have e : vaTidy (.mk 9 n s t l) = .mk 9 n s .zero (.cons ByteArray.empty (vaEnd l) .nil) := by unfold vaTidy; simp [hs]
        rw [e]
        have h : Same (told (headOf c l)) (vaEnd l) := by
          cases l with
          | nil => simp only [headOf, vaEnd, told, toldAny]; exact same_zero
          | cons key v r =>
            simp only [headOf, vaEnd]
            unfold goodAll at gl
            simp only [GAttrs.size] at hN
            have hw' := hw.2.2.2.2.2.2.2
            unfold GAttrs.wf at hw'
            exact made_size c N v (by omega) hw'.2.1 gl.1
        simp [told, Same, SameE, h, empty_of_size hs]
      · rw [if_neg hs]
        have e : vaTidy (.mk 9 n s t l) = .mk 9 n s .zero .nil := by unfold vaTidy; simp [hs]
        rw [e]
        have hs' : ¬ s = ByteArray.empty := fun h => hs (by rw [h]; rfl)
        simp [told, Same, hs']
    · have h1 : k = 1 → n ≤ 1 := gb
      rw [ptidy_num hn, pvalue_num c hn n hw.2.1.1 h1]
      have : n = 1 ∨ n = 0 ∨ k ≠ 1 := by have := hw.2.1.1; omega
      rcases hn with rfl | rfl | rfl | rfl | rfl
      · rcases this with rfl | rfl | h
        · simp [told, Same]
        · simp [told, Same]
        · exact absurd rfl h
      all_goals simp [told, Same]

theorem vsize_full : ∀ l : SAttrs, vSizeAll l.full ≤ vSizeAll l
  | .nil => Nat.le_refl _
  | .cons key v r => by
    have h := vsize_full r
    unfold SAttrs.full
    split
    · simp only [vSizeAll]; omega
    · simp only [vSizeAll]; omega

mutual
theorem vsize_of (c : Option Addr) : ∀ d : GVal, vSize (valueOf c d) ≤ 2 * d.size
  | .mk k n s t l => by
    have hl := vsize_all c l
    have he := vsize_head c l
    unfold valueOf
    repeat' split
    all_goals (simp only [vSize, GVal.size]; first | omega | (have := vsize_full (attrsOf c l); omega))
theorem vsize_head (c : Option Addr) : ∀ l : GAttrs, vSize (headOf c l) ≤ 2 * l.size + 1
  | .nil => by simp only [headOf, vSize, GAttrs.size]; omega
  | .cons key v r => by have := vsize_of c v; simp only [headOf, GAttrs.size]; omega
theorem vsize_all (c : Option Addr) : ∀ l : GAttrs, vSizeAll (attrsOf c l) ≤ 2 * l.size
  | .nil => by simp only [attrsOf, vSizeAll, GAttrs.size]; omega
  | .cons key v r => by
    have h1 := vsize_of c v
    have h2 := vsize_all c r
    simp only [attrsOf, vSizeAll, GAttrs.size]; omega
end

theorem extra_size (s : ByteArray) : (extraTold s).size ≤ 1 := by
  unfold extraTold
  split <;> simp [GAttrs.size, GVal.size, GVal.zero]
mutual
theorem told_vsize : ∀ d : SVal, (told d).size ≤ 2 * vSize d
  | .num k n => by simp only [told, vSize]; split <;> (try split) <;> simp [GVal.size, GAttrs.size]
  | .str s => by simp [told, vSize, GVal.size, GAttrs.size]
  | .time t => by simp [told, vSize, GVal.size, GAttrs.size]
  | .group l => by have := told_vsizeAll l; simp only [told, vSize, GVal.size]; omega
  | .any g => by
    have h := extra_size
    cases g with
    | source f s n => have := h f; simp only [told, toldAny, vSize, GVal.size]; omega
    | both s t => have := h t; simp only [told, toldAny, vSize, GVal.size]; omega
    | _ => simp [told, toldAny, vSize, GVal.size, GVal.zero, GAttrs.size]
  | .valuer n v c => by have := told_vsize v; simp only [told, vSize, GVal.size, GAttrs.size]; omega
  | .throws s c => by simp [told, vSize, GVal.size, GAttrs.size]
theorem told_vsizeAll : ∀ l : SAttrs, (attrsTold l).size ≤ 2 * vSizeAll l
  | .nil => by simp [attrsTold, vSizeAll, GAttrs.size]
  | .cons key v r => by
    have h1 := told_vsize v
    have h2 := told_vsizeAll r
    simp only [attrsTold, vSizeAll, GAttrs.size]; omega
end
theorem told_gsize (c : Option Addr) (d : GVal) : (told (valueOf c d)).size ≤ 4 * d.size := by
  have h1 := told_vsize (valueOf c d)
  have h2 := vsize_of c d
  omega

end Go.Proofs.YtihhgnbgejjijaaGreatDoor.Va

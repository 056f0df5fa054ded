/- What is resolved once, in plain Lean. -/
import Derived.Test.YtdeomgfapffidaaGreatDoorLawRes
namespace Go.Proofs.YtdeomgfapffidaaGreatDoor.Va
set_option linter.unusedVariables false
set_option linter.unusedSimpArgs false
open Go Go.RowKit

theorem told_kind : ∀ d : SVal, (told d).kind = d.kind
  | .num k n => by
    simp only [told, SVal.kind]
    by_cases h : k = 1
    · subst h; rw [if_pos rfl]; split <;> rfl
    · rw [if_neg h]; rfl
  | .str s => rfl
  | .time t => rfl
  | .group l => by simp only [told, SVal.kind]; rfl
  | .any g => by cases g <;> rfl
  | .valuer n v c => by simp only [told, SVal.kind]; rfl
  | .throws s c => rfl

theorem good_zero : good GVal.zero := by
  unfold GVal.zero good
  exact ⟨by omega, by omega, fun _ => by omega, fun h => by omega, fun h => by omega, fun h => by omega, by unfold goodAll; trivial⟩
theorem extra_good (s : ByteArray) (hs : s.size ≤ 140737488355328) : goodAll (extraTold s) ∧ GAttrs.wf (extraTold s) ∧ (extraTold s).len ≤ 140737488355328 := by
  unfold extraTold
  split
  · exact ⟨by unfold goodAll; trivial, by unfold GAttrs.wf; trivial, by simp [GAttrs.len]⟩
  · exact ⟨by unfold goodAll goodAll; exact ⟨good_zero, trivial⟩, by unfold GAttrs.wf GAttrs.wf; exact ⟨hs, zero_wf, trivial⟩, by simp [GAttrs.len]⟩
theorem head_size : ∀ l : GAttrs, GAttrs.wf l → l.head.size ≤ 140737488355328
  | .nil, _ => by show (0 : Nat) ≤ _; omega
  | .cons k v r, h => by unfold GAttrs.wf at h; exact h.1

theorem once_list : ∀ m : GAttrs, GAttrs.wf m → GAttrs.all (fun v => good (told (valueOf none v)) ∧ (told (valueOf none v)).wf) m → goodAll (attrsTold (attrsOf none m)) ∧ GAttrs.wf (attrsTold (attrsOf none m)) ∧ (attrsTold (attrsOf none m)).len = m.len
  | .nil, _, _ => by simp only [attrsOf, attrsTold]; exact ⟨by unfold goodAll; trivial, by unfold GAttrs.wf; trivial, trivial⟩
  | .cons key v r, hw, h => by
    unfold GAttrs.wf at hw
    obtain ⟨h1, h2, h3⟩ := once_list r hw.2.2 h.2
    simp only [attrsOf, attrsTold]
    exact ⟨by unfold goodAll; exact ⟨h.1.1, h1⟩, by unfold GAttrs.wf; exact ⟨hw.1, h.1.2, h2⟩, by simp only [GAttrs.len]; omega⟩
theorem kept_len : ∀ l : GAttrs, (kept l).len ≤ l.len
  | .nil => Nat.le_refl _
  | .cons key v r => by
    have := kept_len r
    unfold kept
    split
    · simp only [GAttrs.len]; omega
    · simp only [GAttrs.len]; omega

theorem once_size : ∀ (N : Nat) (d : GVal), d.size ≤ N → good d → d.wf → good (told (valueOf none d)) ∧ (told (valueOf none d)).wf
  | 0, d, hN, _, _ => absurd hN (by have := size_pos d; omega)
  | N + 1, .mk k n s t l, hN, hg, hw => by
    have hg0 := hg
    unfold good at hg0
    have hw0 := hw
    unfold GVal.wf at hw0
    obtain ⟨g0, g9, ga, gb, gt, gc, gl⟩ := hg0
    obtain ⟨wk, wn, ws, wt1, wt2, wt3, wl, wls⟩ := hw0
    simp only [GVal.size] at hN
    have Z : GTime.zero.sec = 0 ∧ GTime.zero.nsec = 0 ∧ GTime.zero.off = 0 := ⟨rfl, rfl, rfl⟩
    have mk : ∀ (k n : Int) (s : ByteArray) (sec : Int) (l : GAttrs), 0 ≤ k → k ≤ 9 → (k = 0 → n < 16) → (k = 1 → n ≤ 1) → k ≠ 6 → 0 ≤ n → n ≤ 18446744073709551615 → s.size ≤ 140737488355328 → (-9223372036854775808 ≤ sec ∧ sec ≤ 9223372036854775807) → goodAll l → GAttrs.wf l → l.len ≤ 140737488355328 → good (.mk k n s ⟨sec, 0, 0⟩ l) ∧ (GVal.mk k n s ⟨sec, 0, 0⟩ l).wf := by
      intro k n s sec l h0 h1 h2 h3 h4 h5 h6 h7 h8 h9 h10 h11
      exact ⟨by unfold good; exact ⟨h0, h1, h2, h3, fun e => absurd e h4, fun _ => h5, h9⟩, by unfold GVal.wf; exact ⟨by omega, by omega, h7, h8, by show (-9223372036854775808 : Int) ≤ 0 ∧ (0 : Int) ≤ 9223372036854775807; omega, by show (-9223372036854775808 : Int) ≤ 0 ∧ (0 : Int) ≤ 9223372036854775807; omega, h11, h10⟩⟩
    have nilg : goodAll .nil := by unfold goodAll; trivial
    have nilw : GAttrs.wf .nil := by unfold GAttrs.wf; trivial
    have nill : GAttrs.nil.len ≤ 140737488355328 := by simp [GAttrs.len]
    have es : ByteArray.empty.size ≤ 140737488355328 := by show (0 : Nat) ≤ _; omega
    have : k = 0 ∨ k = 5 ∨ k = 6 ∨ k = 8 ∨ k = 9 ∨ (k = 1 ∨ k = 2 ∨ k = 3 ∨ k = 4 ∨ k = 7) := by omega
    rcases this with rfl | rfl | rfl | rfl | rfl | hn
    · rw [pvalueOf_any0]
      have hh := extra_good l.head (head_size l wls)
      have hn16 := ga rfl
      have : n = 0 ∨ n = 1 ∨ n = 2 ∨ n = 3 ∨ n = 4 ∨ n = 5 ∨ n = 6 ∨ n = 7 ∨ n = 8 ∨ n = 9 ∨ n = 10 ∨ n = 11 ∨ n = 12 ∨ n = 13 ∨ n = 14 ∨ n = 15 := by omega
      rcases this with rfl | rfl | rfl | rfl | rfl | rfl | rfl | rfl | rfl | rfl | rfl | rfl | rfl | rfl | rfl | rfl
      all_goals first
        | exact mk 0 _ s _ _ (by omega) (by omega) (fun _ => by omega) (fun h => by omega) (by omega) (by omega) (by omega) ws (by omega) nilg nilw nill
        | exact mk 0 _ s _ _ (by omega) (by omega) (fun _ => by omega) (fun h => by omega) (by omega) (by omega) (by omega) ws (by omega) hh.1 hh.2.1 hh.2.2
        | exact mk 0 _ ByteArray.empty _ _ (by omega) (by omega) (fun _ => by omega) (fun h => by omega) (by omega) (by omega) (by omega) es (by omega) nilg nilw nill
    · rw [pvalue_str]; exact mk 5 0 s 0 .nil (by omega) (by omega) (fun h => by omega) (fun h => by omega) (by omega) (by omega) (by omega) ws (by omega) nilg nilw nill
    · rw [pvalue_time]
      exact ⟨by show good (.mk 6 0 ByteArray.empty t .nil); unfold good; exact ⟨by omega, by omega, fun h => by omega, fun h => by omega, fun _ => gt rfl, fun h => by omega, nilg⟩, by show (GVal.mk 6 0 ByteArray.empty t .nil).wf; unfold GVal.wf; exact ⟨by omega, by omega, es, wt1, wt2, wt3, nill, nilw⟩⟩
    · rw [pvalue_grp, full_kept]
      have hsk := size_kept l
      have hkl := kept_len l
      obtain ⟨h1, h2, h3⟩ := once_list (kept l) (wf_kept _ wls) (all_of N _ (by omega) (goodAll_kept _ gl) (wf_kept _ wls) (fun v hv h1 h2 => once_size N v hv h1 h2))
      simp only [told]
      exact mk 8 0 ByteArray.empty 0 _ (by omega) (by omega) (fun h => by omega) (fun h => by omega) (by omega) (by omega) (by omega) es (by omega) h1 h2 (by omega)
    · rw [pvalue_lv]
      by_cases hs : s.size = 0
      · rw [if_pos hs, head_value]
        simp only [told]
        have h : good (told (valueOf none l.headVal)) ∧ (told (valueOf none l.headVal)).wf := by
          cases l with
          | nil => simp only [GAttrs.headVal, GVal.zero]; exact ⟨good_zero, zero_wf⟩
          | cons key v r =>
            unfold goodAll at gl
            unfold GAttrs.wf at wls
            simp only [GAttrs.headVal, GAttrs.size] at hN ⊢
            exact once_size N v (by omega) gl.1 wls.2.1
        exact mk 9 n ByteArray.empty 0 _ (by omega) (by omega) (fun h => by omega) (fun h => by omega) (by omega) (by omega) (by omega) es (by omega) (by unfold goodAll; exact ⟨h.1, nilg⟩) (by unfold GAttrs.wf; exact ⟨es, h.2, nilw⟩) (by simp [GAttrs.len])
      · rw [if_neg hs]
        exact mk 9 0 s 0 .nil (by omega) (by omega) (fun h => by omega) (fun h => by omega) (by omega) (by omega) (by omega) ws (by omega) nilg nilw nill
    · rw [pvalue_num none hn n wn.1 gb]
      by_cases h1 : k = 1
      · subst h1
        simp only [told, if_true]
        split
        · exact mk 1 1 ByteArray.empty 0 .nil (by omega) (by omega) (fun h => by omega) (fun h => by omega) (by omega) (by omega) (by omega) es (by omega) nilg nilw nill
        · exact mk 1 0 ByteArray.empty 0 .nil (by omega) (by omega) (fun h => by omega) (fun h => by omega) (by omega) (by omega) (by omega) es (by omega) nilg nilw nill
      · simp only [told]
        rw [if_neg h1]
        exact mk k n ByteArray.empty 0 .nil g0 g9 (fun h => by omega) (fun h => by omega) (by omega) wn.1 wn.2 es (by omega) nilg nilw nill
theorem once_good {d : GVal} (hg : good d) (hw : d.wf) : good (told (valueOf none d)) ∧ (told (valueOf none d)).wf := once_size d.size d (Nat.le_refl _) hg hw

theorem next_size (d : GVal) : (nextD d).size ≤ d.size := by
  obtain ⟨k, n, s, t, l⟩ := d
  rw [nextD_mk]
  have := headVal_size l
  split
  · simp only [GVal.size]; omega
  · simp only [GVal.size]; omega
theorem resolve_size : ∀ (f : Nat) (d : GVal) (k : Nat) (d' : GVal) (k' : Nat), resolveD f d k = .val d' k' → d'.size ≤ d.size ∧ k ≤ k'
  | 0, _, _, _, _, e => by cases e
  | f + 1, d, k, d', k', e => by
    unfold resolveD at e
    by_cases hk : d.kind = 9
    · rw [if_pos hk] at e
      by_cases hs : d.s.size = 0
      · rw [if_pos hs] at e
        have h1 := resolve_size f _ _ d' k' e
        have h2 := next_size d
        exact ⟨by omega, by omega⟩
      · rw [if_neg hs] at e; cases e
    · rw [if_neg hk] at e
      injection e with e1 e2
      subst e1
      exact ⟨Nat.le_refl _, by omega⟩
theorem first_calls {da d' : GVal} {k : Nat} (h : resolveD 100 da 0 = .val d' k) : (k = 0 ∧ (da.kind == 9) = false) ∨ (0 < k ∧ (da.kind == 9) = true) := by
  rw [show (100 : Nat) = 99 + 1 from rfl, resolveD] at h
  by_cases hk : da.kind = 9
  · rw [if_pos hk] at h
    by_cases hs : da.s.size = 0
    · rw [if_pos hs] at h
      have := (resolve_size 99 _ _ d' k h).2
      exact .inr ⟨by omega, by simp [hk]⟩
    · rw [if_neg hs] at h; cases h
  · rw [if_neg hk] at h
    injection h with h1 h2
    exact .inl ⟨h2.symm, by simp [hk]⟩
theorem cells15r {da db dc : GVal} {A A' A'' : Option Addr} {len cap len' cap' len'' cap'' : Nat} {wx : World} {ba bb bc : Nat} (h : Box wx ba da A len cap) (h' : Box wx bb db A' len' cap') (h'' : Box wx bc dc A'' len'' cap'') :
    wx.cell? ⟨ba, 0, none⟩ = some (.int .i64 da.kind) ∧ wx.cell? ⟨ba, 1, none⟩ = some (.int .u64 da.n) ∧ wx.cell? ⟨ba, 2, none⟩ = some (.string da.s) ∧ wx.cell? ⟨ba, 3, none⟩ = some (.int .i64 da.t.sec) ∧ wx.cell? ⟨ba, 4, none⟩ = some (.int .i64 da.t.nsec) ∧ wx.cell? ⟨ba, 5, none⟩ = some (.int .i64 da.t.off) ∧ wx.cell? ⟨ba, 6, none⟩ = some (.slice A len cap) ∧ wx.cell? ⟨bb, 0, none⟩ = some (.int .i64 db.kind) ∧ wx.cell? ⟨bb, 1, none⟩ = some (.int .u64 db.n) ∧ wx.cell? ⟨bb, 2, none⟩ = some (.string db.s) ∧ wx.cell? ⟨bb, 3, none⟩ = some (.int .i64 db.t.sec) ∧ wx.cell? ⟨bb, 4, none⟩ = some (.int .i64 db.t.nsec) ∧ wx.cell? ⟨bb, 5, none⟩ = some (.int .i64 db.t.off) ∧ wx.cell? ⟨bb, 6, none⟩ = some (.slice A' len' cap') ∧ wx.cell? ⟨bc, 0, none⟩ = some (.int .i64 dc.kind) := by
  obtain ⟨a0, a1, a2, a3, a4, a5, a6⟩ := h
  obtain ⟨b0, b1, b2, b3, b4, b5, b6⟩ := h'
  exact ⟨a0, a1, a2, a3, a4, a5, a6, b0, b1, b2, b3, b4, b5, b6, h''.1⟩

end Go.Proofs.YtdeomgfapffidaaGreatDoor.Va

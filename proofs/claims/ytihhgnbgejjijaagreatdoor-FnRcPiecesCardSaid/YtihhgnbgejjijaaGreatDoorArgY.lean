/- Rows of Args that came in, as cells to be appended; rows of Attrs likewise. -/
import Derived.Test.YtihhgnbgejjijaaGreatDoorArgX
import Derived.Test.YtihhgnbgejjijaaGreatDoorAppSrc
namespace Go.Proofs.YtihhgnbgejjijaaGreatDoor.Va
set_option linter.unusedVariables false
set_option linter.unusedSimpArgs false
open Go Go.RowKit

theorem RArgX.of {w : World} : ∀ (l : List GArg) (b o : Nat), RArgs w l b o → ∃ xs, RArgX w l xs ∧ ∀ j u, xs[j]? = some u → w.cell? ⟨b, o + j, none⟩ = some u
  | [], _, _, _ => ⟨[], rfl, fun j u h => absurd h (by simp)⟩
  | ⟨what, key, .mk k n s t l⟩ :: r, b, o, h => by
    obtain ⟨h0, h1, hv, hr⟩ := h
    unfold RVal at hv
    obtain ⟨h2, h3, h4, h5, h6, h7, A, len, cap, h8, hl⟩ := hv
    obtain ⟨ys, hx, hcs⟩ := RArgX.of r b (o + 9) hr
    refine ⟨_, ⟨A, len, cap, ys, rfl, hl, hx⟩, fun j u hj => ?_⟩
    rcases j with _ | _ | _ | _ | _ | _ | _ | _ | _ | j
    · injection hj with hj; subst hj; exact h0
    · injection hj with hj; subst hj; exact h1
    · injection hj with hj; subst hj; exact h2
    · injection hj with hj; subst hj; exact h3
    · injection hj with hj; subst hj; exact h4
    · injection hj with hj; subst hj; exact h5
    · injection hj with hj; subst hj; exact h6
    · injection hj with hj; subst hj; exact h7
    · injection hj with hj; subst hj; exact h8
    · have hj' : ys[j]? = some u := by simpa [cArg] using hj
      have := hcs j u hj'
      rwa [show o + 9 + j = o + (j + 9) by omega] at this
theorem RArgX.cells {w : World} : ∀ (l : List GArg) (xs : List Value), RArgX w l xs → ∀ u ∈ xs, u.oneCell' = true
  | [], xs, h, u, hu => by cases h; cases hu
  | a :: r, xs, h, u, hu => by
    obtain ⟨A, len, cap, ys, rfl, hl, hr⟩ := h
    rcases List.mem_append.1 hu with hu | hu
    · simp only [cArg, List.mem_cons, List.not_mem_nil, or_false] at hu
      (repeat' (rcases hu with rfl | hu)) <;> first | rfl | (subst hu; rfl)
    · exact RArgX.cells r ys hr u hu
theorem src_args {w : World} {l : List GArg} {A : Option Addr} {len : Nat} (h : RArgS w l A len) : ∃ xs, RArgX w l xs ∧ Src w 9 A len xs ∧ ∀ u ∈ xs, u.oneCell' = true := by
  obtain ⟨h1, h2⟩ := h
  by_cases hz : 0 < len
  · obtain ⟨b, o, e, hr⟩ := h2 hz
    obtain ⟨xs, hx, hc⟩ := RArgX.of l b o hr
    exact ⟨xs, hx, ⟨by rw [RArgX.len l xs hx, h1], fun _ => ⟨b, o, e, hc⟩⟩, RArgX.cells l xs hx⟩
  · have : l = [] := List.length_eq_zero_iff.1 (by omega)
    subst this
    exact ⟨[], rfl, ⟨by simp; omega, fun h => absurd h hz⟩, fun u hu => by cases hu⟩

/-- A row of Attrs as a list of cells, whose lists lie in world w. -/
def RAttX (w : World) : GAttrs → List Value → Prop
  | .nil, xs => xs = []
  | .cons key (.mk k n s t l) r, xs => ∃ A len cap ys, xs = .string key :: .int .i64 k :: .int .u64 n :: .string s :: .int .i64 t.sec :: .int .i64 t.nsec :: .int .i64 t.off :: .slice A len cap :: ys ∧ RS w l A len ∧ RAttX w r ys
theorem RAttX.keep {w w' : World} (hk : Keeps w w') : ∀ (l : GAttrs) (xs : List Value), RAttX w l xs → RAttX w' l xs
  | .nil, _, h => h
  | .cons key (.mk k n s t l) r, xs, h => by
    obtain ⟨A, len, cap, ys, e, hl, hr⟩ := h
    exact ⟨A, len, cap, ys, e, hl.keep hk, RAttX.keep hk r ys hr⟩
theorem RAttX.app {w : World} : ∀ (l m : GAttrs) (xs ys : List Value), RAttX w l xs → RAttX w m ys → RAttX w (l.append m) (xs ++ ys)
  | .nil, _, xs, _, h, k => by cases h; exact k
  | .cons key (.mk k n s t l) r, m, xs, zs, h, hm => by
    obtain ⟨A, len, cap, ys, rfl, hl, hr⟩ := h
    exact ⟨A, len, cap, ys ++ zs, by simp, hl, RAttX.app r m ys zs hr hm⟩
theorem RAttX.len {w : World} : ∀ (l : GAttrs) (xs : List Value), RAttX w l xs → xs.length = l.len * 8
  | .nil, xs, h => by cases h; rfl
  | .cons key (.mk k n s t l) r, xs, h => by
    obtain ⟨A, len, cap, ys, rfl, hl, hr⟩ := h
    have := RAttX.len r ys hr
    simp only [List.length_cons, GAttrs.len]
    omega
theorem RAttX.of {w : World} : ∀ (l : GAttrs) (b o : Nat), RAs w l b o → ∃ xs, RAttX w l xs ∧ ∀ j u, xs[j]? = some u → w.cell? ⟨b, o + j, none⟩ = some u
  | .nil, _, _, _ => ⟨[], rfl, fun j u h => absurd h (by simp)⟩
  | .cons key (.mk k n s t l) r, b, o, h => by
    unfold RAs at h
    obtain ⟨h0, hv, hr⟩ := h
    unfold RVal at hv
    obtain ⟨h1, h2, h3, h4, h5, h6, A, len, cap, h7, hl⟩ := hv
    obtain ⟨ys, hx, hcs⟩ := RAttX.of r b (o + 8) hr
    refine ⟨_, ⟨A, len, cap, ys, rfl, hl, hx⟩, fun j u hj => ?_⟩
    rcases j with _ | _ | _ | _ | _ | _ | _ | _ | j
    · injection hj with hj; subst hj; exact h0
    · injection hj with hj; subst hj; exact h1
    · injection hj with hj; subst hj; exact h2
    · injection hj with hj; subst hj; exact h3
    · injection hj with hj; subst hj; exact h4
    · injection hj with hj; subst hj; exact h5
    · injection hj with hj; subst hj; exact h6
    · injection hj with hj; subst hj; exact h7
    · have hj' : ys[j]? = some u := by simpa using hj
      have := hcs j u hj'
      rwa [show o + 8 + j = o + (j + 8) by omega] at this
theorem RAttX.cells {w : World} : ∀ (l : GAttrs) (xs : List Value), RAttX w l xs → ∀ u ∈ xs, u.oneCell' = true
  | .nil, xs, h, u, hu => by cases h; cases hu
  | .cons key (.mk k n s t l) r, xs, h, u, hu => by
    obtain ⟨A, len, cap, ys, rfl, hl, hr⟩ := h
    simp only [List.mem_cons] at hu
    rcases hu with rfl | rfl | rfl | rfl | rfl | rfl | rfl | rfl | hu
    all_goals first | rfl | exact RAttX.cells r ys hr u hu
theorem src_attrs {w : World} {l : GAttrs} {A : Option Addr} {len : Nat} (h : RS w l A len) : ∃ xs, RAttX w l xs ∧ Src w 8 A len xs ∧ ∀ u ∈ xs, u.oneCell' = true := by
  obtain ⟨h1, h2⟩ := h
  by_cases hz : 0 < len
  · obtain ⟨b, o, e, hr⟩ := h2 hz
    obtain ⟨xs, hx, hc⟩ := RAttX.of l b o hr
    exact ⟨xs, hx, ⟨by rw [RAttX.len l xs hx, h1], fun _ => ⟨b, o, e, hc⟩⟩, RAttX.cells l xs hx⟩
  · have : l = .nil := by cases l with | nil => rfl | cons k v r => simp only [GAttrs.len] at h1; omega
    subst this
    exact ⟨[], rfl, ⟨by simp; omega, fun h => absurd h hz⟩, fun u hu => by cases hu⟩
theorem RAttX.rows {w w' : World} (hk : Keeps w w') : ∀ (l : GAttrs) (xs : List Value) (b o : Nat), RAttX w l xs → (∀ j u, xs[j]? = some u → w'.cell? ⟨b, o + j, none⟩ = some u) → RAs w' l b o
  | .nil, _, _, _, _, _ => by unfold RAs; trivial
  | .cons key (.mk k n s t l) r, xs, b, o, h, hc => by
    obtain ⟨A, len, cap, ys, rfl, hl, hr⟩ := h
    have hl := hl.keep hk
    unfold RAs
    refine ⟨hc 0 _ rfl, ?_, RAttX.rows hk r ys b (o + 8) hr fun j u hj => ?_⟩
    · unfold RVal
      exact ⟨hc 1 _ rfl, hc 2 _ rfl, hc 3 _ rfl, hc 4 _ rfl, hc 5 _ rfl, hc 6 _ rfl, A, len, cap, hc 7 _ rfl, hl.1, hl.2⟩
    · have := hc (j + 8) u (by simpa using hj)
      rwa [show o + 8 + j = o + (j + 8) by omega]
theorem rattrs_of_owns {w w' : World} {base : Nat} {e : TypeId} {l : GAttrs} {xs : List Value} {v : Value} {n : Nat} (hown : w'.ownsRow base e 8 v n xs) (hx : RAttX w l xs) (hk : Keeps w w') : ∃ A cap, v = .slice A n cap ∧ n ≤ cap ∧ RS w' l A n := by
  have hlen := RAttX.len l xs hx
  have h1 := hown.1
  rcases hown.2 with ⟨rfl, rfl⟩ | ⟨g, cap, cur, rfl, hb, hg, hnc, hcm, hcs, htake⟩
  · exact ⟨none, 0, rfl, Nat.le_refl _, by omega, fun h => absurd h (by omega)⟩
  · refine ⟨_, cap, rfl, hnc, by omega, fun h => ⟨g, 0, rfl, RAttX.rows hk l xs g 0 hx fun j u hu => ?_⟩⟩
    have h3 := hown.cells (g := g) rfl j u hu
    have hadd : (⟨g, 0, none⟩ : Addr).add j = ⟨g, 0 + j, none⟩ := by unfold Addr.add; split <;> simp_all
    rwa [hadd] at h3

end Go.Proofs.YtihhgnbgejjijaaGreatDoor.Va

/- A row of LogSteps as a list of cells. -/
import Derived.Test.YtihhgnbgejjijaaGreatDoorLgPlay
import Derived.Test.YtihhgnbgejjijaaGreatDoorArgY
namespace Go.Proofs.YtihhgnbgejjijaaGreatDoor.Va
set_option linter.unusedVariables false
set_option linter.unusedSimpArgs false
open Go Go.RowKit

def RStX (w : World) : List GStep → List Value → Prop
  | [], xs => xs = []
  | s :: r, xs => ∃ A len cap A2 len2 cap2 ys, xs = .int .i64 s.act :: .string s.name :: .int .i64 s.level :: .string s.msg :: .slice A len cap :: .slice A2 len2 cap2 :: ys ∧ len ≤ cap ∧ RArgS w s.args A len ∧ RS w s.attrs A2 len2 ∧ RStX w r ys
theorem RStX.app {w : World} : ∀ (l m : List GStep) (xs ys : List Value), RStX w l xs → RStX w m ys → RStX w (l ++ m) (xs ++ ys)
  | [], _, xs, _, h, k => by cases h; exact k
  | s :: r, m, xs, zs, h, k => by
    obtain ⟨A, len, cap, A2, len2, cap2, ys, rfl, hc, h1, h2, hr⟩ := h
    exact ⟨A, len, cap, A2, len2, cap2, ys ++ zs, by simp, hc, h1, h2, RStX.app r m ys zs hr k⟩
theorem RStX.len {w : World} : ∀ (l : List GStep) (xs : List Value), RStX w l xs → xs.length = l.length * 6
  | [], xs, h => by cases h; rfl
  | s :: r, xs, h => by
    obtain ⟨A, len, cap, A2, len2, cap2, ys, rfl, hc, h1, h2, hr⟩ := h
    have := RStX.len r ys hr
    simp only [List.length_cons]
    omega
theorem RStX.rows {w wr : World} (hk : Keeps w wr) : ∀ (l : List GStep) (xs : List Value) (b o : Nat), RStX w l xs → (∀ j u, xs[j]? = some u → wr.cell? ⟨b, o + j, none⟩ = some u) → RSteps wr l b o
  | [], _, _, _, _, _ => trivial
  | s :: r, xs, b, o, h, hc => by
    obtain ⟨A, len, cap, A2, len2, cap2, ys, rfl, hl, h1, h2, hr⟩ := h
    refine ⟨hc 0 _ rfl, hc 1 _ rfl, hc 2 _ rfl, hc 3 _ rfl, ⟨A, len, cap, hc 4 _ rfl, hl, h1.keep hk⟩, ⟨A2, len2, cap2, hc 5 _ rfl, h2.keep hk⟩, RStX.rows hk r ys b (o + 6) hr fun j u hj => ?_⟩
    have := hc (j + 6) u (by simpa using hj)
    rwa [show o + 6 + j = o + (j + 6) by omega]
/-- The cells of a row that is there. -/
theorem RStX.of {w : World} : ∀ (l : List GStep) (b o : Nat), RSteps w l b o → ∃ xs, RStX w l xs ∧ ∀ j u, xs[j]? = some u → w.cell? ⟨b, o + j, none⟩ = some u
  | [], _, _, _ => ⟨[], rfl, fun j u h => absurd h (by simp)⟩
  | s :: r, b, o, h => by
    obtain ⟨h0, h1, h2, h3, ⟨A, len, cap, h4, hc, ha⟩, ⟨A2, len2, cap2, h5, ha2⟩, hr⟩ := h
    obtain ⟨ys, hx, hcs⟩ := RStX.of r b (o + 6) hr
    refine ⟨_, ⟨A, len, cap, A2, len2, cap2, ys, rfl, hc, ha, ha2, hx⟩, fun j u hj => ?_⟩
    rcases j with _ | _ | _ | _ | _ | _ | j
    · injection hj with hj; subst hj; exact h0
    · injection hj with hj; subst hj; exact h1
    · injection hj with hj; subst hj; exact h2
    · injection hj with hj; subst hj; exact h3
    · injection hj with hj; subst hj; exact h4
    · injection hj with hj; subst hj; exact h5
    · have := hcs j u (by simpa using hj)
      rwa [show o + 6 + j = o + (j + 6) by omega] at this
theorem RStX.cells {w : World} : ∀ (l : List GStep) (xs : List Value), RStX w l xs → ∀ u ∈ xs, u.oneCell' = true
  | [], xs, h, u, hu => by cases h; cases hu
  | s :: r, xs, h, u, hu => by
    obtain ⟨A, len, cap, A2, len2, cap2, ys, rfl, hc, h1, h2, hr⟩ := h
    simp only [List.mem_cons] at hu
    rcases hu with rfl | rfl | rfl | rfl | rfl | rfl | hu
    all_goals first | rfl | exact RStX.cells r ys hr u hu
theorem RStX.keep {w w' : World} (hk : Keeps w w') : ∀ (l : List GStep) (xs : List Value), RStX w l xs → RStX w' l xs
  | [], _, h => h
  | s :: r, xs, h => by
    obtain ⟨A, len, cap, A2, len2, cap2, ys, e, hc, h1, h2, hr⟩ := h
    exact ⟨A, len, cap, A2, len2, cap2, ys, e, hc, h1.keep hk, h2.keep hk, RStX.keep hk r ys hr⟩
theorem src_steps {w : World} {l : List GStep} {A : Option Addr} {len : Nat} (h : RStepS w l A len) : ∃ xs, RStX w l xs ∧ Src w 6 A len xs ∧ ∀ u ∈ xs, u.oneCell' = true := by
  obtain ⟨h1, h2⟩ := h
  by_cases hz : 0 < len
  · obtain ⟨b, o, e, hr⟩ := h2 hz
    obtain ⟨xs, hx, hc⟩ := RStX.of l b o hr
    exact ⟨xs, hx, ⟨by rw [RStX.len l xs hx, h1], fun _ => ⟨b, o, e, hc⟩⟩, RStX.cells l xs hx⟩
  · have : l = [] := List.length_eq_zero_iff.1 (by omega)
    subst this
    exact ⟨[], rfl, ⟨by simp; omega, fun h => absurd h hz⟩, fun u hu => by cases hu⟩
/-- A row of one's own that holds steps is a slice of them. -/
theorem rsteps_of_owns {w wr : World} {base : Nat} {e : TypeId} {l : List GStep} {xs : List Value} {v : Value} {n : Nat} (hk : Keeps w wr) (hown : wr.ownsRow base e 6 v n xs) (hx : RStX w l xs) : ∃ A cap, v = .slice A n cap ∧ RStepS wr l A n := by
  have hlen := RStX.len l xs hx
  have h1 := hown.1
  rcases hown.2 with ⟨rfl, rfl⟩ | ⟨g, cap, cur, rfl, hb, hg, hnc, hcm, hcs, htake⟩
  · exact ⟨none, 0, rfl, by omega, fun h => absurd h (by omega)⟩
  · refine ⟨_, cap, rfl, by omega, fun h => ⟨g, 0, rfl, RStX.rows hk l xs g 0 hx fun j u hu => ?_⟩⟩
    have h3 := hown.cells (g := g) rfl j u hu
    have hadd : (⟨g, 0, none⟩ : Addr).add j = ⟨g, 0 + j, none⟩ := by unfold Addr.add; split <;> simp_all
    rwa [hadd] at h3

end Go.Proofs.YtihhgnbgejjijaaGreatDoor.Va

/- Rows of LogSteps whose arguments may lie in blocks that the call has made itself. -/
namespace Go.Proofs.YtihhgnbgejjijaaGreatDoor.Va
set_option linter.unusedVariables false
set_option linter.unusedSimpArgs false
open Go Go.RowKit

def RArgY (w wr : World) (P : Nat → Prop) (l : List GArg) (A : Option Addr) (len : Nat) : Prop :=
  len = l.length ∧ ∃ ys, RArgX w l ys ∧ (0 < len → ∃ b o, A = some ⟨b, o, none⟩ ∧ P b ∧ b < wr.heap.size ∧ ∀ j u, ys[j]? = some u → wr.cell? ⟨b, o + j, none⟩ = some u)
theorem RArgY.turn {w wr wx : World} {P Q : Nat → Prop} (hk : KeepsOn P wr wx) (hq : ∀ b, P b → b < wr.heap.size → Q b) {l : List GArg} {A : Option Addr} {len : Nat} (h : RArgY w wr P l A len) : RArgY w wx Q l A len := by
  obtain ⟨h1, ys, hy, h2⟩ := h
  refine ⟨h1, ys, hy, fun hz => ?_⟩
  obtain ⟨b, o, e, hp, hl, hc⟩ := h2 hz
  exact ⟨b, o, e, hq b hp hl, heap_lt (hk b hp hl) hl, fun j u hj => hk.cell hp (hc j u hj)⟩
theorem RArgY.of {w wr : World} {P : Nat → Prop} (hk : Keeps w wr) (hp : ∀ b, b < w.heap.size → P b) {l : List GArg} {A : Option Addr} {len : Nat} (h : RArgS w l A len) : RArgY w wr P l A len := by
  obtain ⟨xs, hx, hs, _⟩ := src_args h
  refine ⟨h.1, xs, hx, fun hz => ?_⟩
  obtain ⟨b, o, e, hr⟩ := h.2 hz
  obtain ⟨b', o', e', hc⟩ := hs.2 hz
  have e2 : some (⟨b, o, none⟩ : Addr) = some ⟨b', o', none⟩ := e.symm.trans e'
  injection e2 with e2
  injection e2 with e3 e4 _
  subst e3 e4
  have hb : b < w.heap.size := by
    cases l with
    | nil => rw [h.1] at hz; exact absurd hz (by simp)
    | cons a r => exact World.block_lt_of_cell? w ⟨b, o, none⟩ hr.1
  exact ⟨b, o, e, hp b hb, heap_lt (hk b hb) hb, fun j u hj => hk.cell (hc j u hj)⟩
theorem RArgY.args {w wr : World} {P : Nat → Prop} (hk : Keeps w wr) {l : List GArg} {A : Option Addr} {len : Nat} (h : RArgY w wr P l A len) : RArgS wr l A len := by
  obtain ⟨h1, ys, hy, h2⟩ := h
  refine ⟨h1, fun hz => ?_⟩
  obtain ⟨b, o, e, hp, hl, hc⟩ := h2 hz
  exact ⟨b, o, e, RArgX.rows hk l ys b o hy hc⟩
/-- A row of one's own that holds arguments. -/
theorem RArgY.own {w wr : World} {base n : Nat} {e : TypeId} {l : List GArg} {xs : List Value} {v : Value} {P : Nat → Prop} (hown : wr.ownsRow base e 9 v n xs) (hx : RArgX w l xs) (hp : ∀ g, v.ownBlock = some g → P g) :
    ∃ A cap, v = .slice A n cap ∧ n ≤ cap ∧ RArgY w wr P l A n := by
  have hlen := RArgX.len l xs hx
  have h1 := hown.1
  have hl := hown.lt
  rcases hown.2 with ⟨rfl, rfl⟩ | ⟨g, cap, cur, rfl, hb, hg, hnc, hcm, hcs, htake⟩
  · exact ⟨none, 0, rfl, Nat.le_refl _, by omega, xs, hx, fun h => absurd h (by omega)⟩
  · refine ⟨_, cap, rfl, hnc, by omega, xs, hx, fun h => ⟨g, 0, rfl, hp g rfl, (hl g rfl).2, fun j u hu => ?_⟩⟩
    have h3 := hown.cells (g := g) rfl j u hu
    rw [add_at] at h3
    rw [Nat.zero_add]
    exact h3

def RStY (w wr : World) (P : Nat → Prop) : List GStep → List Value → Prop
  | [], xs => xs = []
  | s :: r, xs => ∃ A len cap A2 len2 cap2 ys, xs = .int .i64 s.act :: .string s.name :: .int .i64 s.level :: .string s.msg :: .slice A len cap :: .slice A2 len2 cap2 :: ys ∧ len ≤ cap ∧ RArgY w wr P s.args A len ∧ RS w s.attrs A2 len2 ∧ RStY w wr P r ys
theorem RStY.turn {w wr wx : World} {P Q : Nat → Prop} (hk : KeepsOn P wr wx) (hq : ∀ b, P b → b < wr.heap.size → Q b) : ∀ (l : List GStep) (xs : List Value), RStY w wr P l xs → RStY w wx Q l xs
  | [], _, h => h
  | s :: r, xs, h => by
    obtain ⟨A, len, cap, A2, len2, cap2, ys, e, hc, h1, h2, hr⟩ := h
    exact ⟨A, len, cap, A2, len2, cap2, ys, e, hc, h1.turn hk hq, h2, RStY.turn hk hq r ys hr⟩
theorem RStY.app {w wr : World} {P : Nat → Prop} : ∀ (l m : List GStep) (xs ys : List Value), RStY w wr P l xs → RStY w wr P m ys → RStY w wr P (l ++ m) (xs ++ ys)
  | [], _, xs, _, h, k => by cases h; exact k
  | s :: r, m, xs, zs, h, k => by
    obtain ⟨A, len, cap, A2, len2, cap2, ys, rfl, hc, h1, h2, hr⟩ := h
    exact ⟨A, len, cap, A2, len2, cap2, ys ++ zs, by simp, hc, h1, h2, RStY.app r m ys zs hr k⟩
theorem RStY.len {w wr : World} {P : Nat → Prop} : ∀ (l : List GStep) (xs : List Value), RStY w wr P l xs → xs.length = l.length * 6
  | [], xs, h => by cases h; rfl
  | s :: r, xs, h => by
    obtain ⟨A, len, cap, A2, len2, cap2, ys, rfl, hc, h1, h2, hr⟩ := h
    have := RStY.len r ys hr
    simp only [List.length_cons]
    omega
theorem RStY.of {w wr : World} {P : Nat → Prop} (hk : Keeps w wr) (hp : ∀ b, b < w.heap.size → P b) : ∀ (l : List GStep) (xs : List Value), RStX w l xs → RStY w wr P l xs
  | [], _, h => h
  | s :: r, xs, h => by
    obtain ⟨A, len, cap, A2, len2, cap2, ys, e, hc, h1, h2, hr⟩ := h
    exact ⟨A, len, cap, A2, len2, cap2, ys, e, hc, RArgY.of hk hp h1, h2, RStY.of hk hp r ys hr⟩
theorem RStY.rows {w wr : World} {P : Nat → Prop} (hk : Keeps w wr) : ∀ (l : List GStep) (xs : List Value) (b o : Nat), RStY w wr P l xs → (∀ j u, xs[j]? = some u → wr.cell? ⟨b, o + j, none⟩ = some u) → RSteps wr l b o
  | [], _, _, _, _, _ => trivial
  | s :: r, xs, b, o, h, hc => by
    obtain ⟨A, len, cap, A2, len2, cap2, ys, rfl, hl, h1, h2, hr⟩ := h
    refine ⟨hc 0 _ rfl, hc 1 _ rfl, hc 2 _ rfl, hc 3 _ rfl, ⟨A, len, cap, hc 4 _ rfl, hl, h1.args hk⟩, ⟨A2, len2, cap2, hc 5 _ rfl, h2.keep hk⟩, RStY.rows hk r ys b (o + 6) hr fun j u hj => ?_⟩
    have := hc (j + 6) u (by simpa using hj)
    rwa [show o + 6 + j = o + (j + 6) by omega]
theorem rsteps_of_ownsY {w wr : World} {P : Nat → Prop} {base : Nat} {e : TypeId} {l : List GStep} {xs : List Value} {v : Value} {n : Nat} (hk : Keeps w wr) (hown : wr.ownsRow base e 6 v n xs) (hx : RStY w wr P l xs) : ∃ A cap, v = .slice A n cap ∧ RStepS wr l A n := by
  have hlen := RStY.len l xs hx
  have h1 := hown.1
  rcases hown.2 with ⟨rfl, rfl⟩ | ⟨g, cap, cur, rfl, hb, hg, hnc, hcm, hcs, htake⟩
  · exact ⟨none, 0, rfl, by omega, fun h => absurd h (by omega)⟩
  · refine ⟨_, cap, rfl, by omega, fun h => ⟨g, 0, rfl, RStY.rows hk l xs g 0 hx fun j u hu => ?_⟩⟩
    have h3 := hown.cells (g := g) rfl j u hu
    rw [add_at] at h3
    rw [Nat.zero_add]
    exact h3
/-- One step's cells. -/
def cStep (s : GStep) (a b : Value) : List Value := [.int .i64 s.act, .string s.name, .int .i64 s.level, .string s.msg, a, b]
theorem RStY.one {w wr : World} {P : Nat → Prop} (s : GStep) {A A2 : Option Addr} {len cap len2 cap2 : Nat} (hc : len ≤ cap) (h1 : RArgY w wr P s.args A len) (h2 : RS w s.attrs A2 len2) : RStY w wr P [s] (cStep s (.slice A len cap) (.slice A2 len2 cap2)) :=
  ⟨A, len, cap, A2, len2, cap2, [], rfl, hc, h1, h2, rfl⟩
/-- A cell of the step at hand, and what is set there. -/
theorem mid_get {xs ys : List Value} {s : GStep} {a b : Value} {k : Nat} (hk : xs.length = k * 6) : (xs ++ (cStep s a b ++ ys))[k * 6]? = some (.int .i64 s.act) ∧ (xs ++ (cStep s a b ++ ys))[k * 6 + 1]? = some (.string s.name) ∧ (xs ++ (cStep s a b ++ ys))[k * 6 + 2]? = some (.int .i64 s.level) ∧
    (xs ++ (cStep s a b ++ ys))[k * 6 + 3]? = some (.string s.msg) ∧ (xs ++ (cStep s a b ++ ys))[k * 6 + 4]? = some a ∧ (xs ++ (cStep s a b ++ ys))[k * 6 + 5]? = some b := by
  refine ⟨?_, ?_, ?_, ?_, ?_, ?_⟩ <;> (rw [List.getElem?_append_right (by omega), hk]; simp [cStep])
theorem mid_set {xs ys : List Value} {s : GStep} {a b : Value} {k : Nat} (hk : xs.length = k * 6) : (∀ x, (xs ++ (cStep s a b ++ ys)).set (k * 6) (.int .i64 x) = xs ++ (cStep ⟨x, s.name, s.level, s.msg, s.args, s.attrs⟩ a b ++ ys)) ∧
    (∀ x, (xs ++ (cStep s a b ++ ys)).set (k * 6 + 2) (.int .i64 x) = xs ++ (cStep ⟨s.act, s.name, x, s.msg, s.args, s.attrs⟩ a b ++ ys)) ∧ (∀ x, (xs ++ (cStep s a b ++ ys)).set (k * 6 + 4) x = xs ++ (cStep s x b ++ ys)) := by
  refine ⟨fun x => ?_, fun x => ?_, fun x => ?_⟩ <;> (rw [List.set_append, if_neg (by omega), hk]; simp [cStep])

end Go.Proofs.YtihhgnbgejjijaaGreatDoor.Va

/- A variable that holds a record, of which attributes are added: its cells and its rows. -/
import Derived.Test.YtihhgnbgejjijaaGreatDoorRecM
import Derived.Test.YtihhgnbgejjijaaGreatDoorArgsP
import Derived.Test.YtihhgnbgejjijaaGreatDoorArgSl
import Derived.OwnWalk
import Derived.Lib.SliceRun
import Derived.Deep.RegionLaw
namespace Go.Proofs.YtihhgnbgejjijaaGreatDoor.Va
set_option linter.unusedVariables false
set_option linter.unusedSimpArgs false
open Go Go.RowKit

/-- The 24 cells of the variable at rb, ro: 22 by a function, the number of those in front, the row behind. -/
def RecU (rb ro : Nat) (rc : Nat → Value) (nf : Nat) (u : Value) (w : World) : Prop :=
  (∀ j, j < 22 → w.cell? ⟨rb, ro + j, none⟩ = some (rc j)) ∧ w.cell? ⟨rb, ro + 22, none⟩ = some (.int .i64 nf) ∧ w.cell? ⟨rb, ro + 23, none⟩ = some u ∧ ∀ j, j < 24 → w.frozen? ⟨rb, ro + j, none⟩ = false
theorem RecU.lt {rb ro : Nat} {rc : Nat → Value} {nf : Nat} {u : Value} {w : World} (h : RecU rb ro rc nf u w) : rb < w.heap.size := World.block_lt_of_cell? w ⟨rb, ro + 22, none⟩ h.2.1
theorem RecU.keep {rb ro : Nat} {rc : Nat → Value} {nf : Nat} {u : Value} {w w' : World} (h : RecU rb ro rc nf u w) (hk : w'.heap[rb]? = w.heap[rb]?) : RecU rb ro rc nf u w' := by
  have hc : ∀ o, w'.cell? ⟨rb, o, none⟩ = w.cell? ⟨rb, o, none⟩ := fun o => World.cell?_of_block (a := ⟨rb, o, none⟩) hk
  have hf : ∀ o, w'.frozen? ⟨rb, o, none⟩ = w.frozen? ⟨rb, o, none⟩ := fun o => World.frozen?_of_block (a := ⟨rb, o, none⟩) hk
  exact ⟨fun j hj => (hc _).trans (h.1 j hj), (hc _).trans h.2.1, (hc _).trans h.2.2.1, fun j hj => (hf _).trans (h.2.2.2 j hj)⟩
theorem set_at {w : World} {rb o j : Nat} {v u : Value} (h : w.cell? ⟨rb, j, none⟩ = some u) : (w.setCell ⟨rb, o, none⟩ v).cell? ⟨rb, j, none⟩ = some (if j = o then v else u) := by
  by_cases e : j = o
  · subst e
    rw [if_pos rfl]
    exact World.cell?_setCell_same _ _ _ h
  · rw [if_neg e, World.cell?_setCell_other _ _ _ _ (fun e2 => e (by injection e2 with _ e3 _; exact e3.symm))]
    exact h
/-- One of its cells is set. -/
theorem RecU.set {rb ro : Nat} {rc : Nat → Value} {nf : Nat} {u : Value} {w : World} (h : RecU rb ro rc nf u w) (k : Nat) (hk : k < 22) (v : Value) :
    RecU rb ro (fun j => if j = k then v else rc j) nf u (w.setCell ⟨rb, ro + k, none⟩ v) := by
  refine ⟨fun j hj => ?_, ?_, ?_, fun j hj => by rw [World.frozen?_setCell]; exact h.2.2.2 j hj⟩
  · rw [set_at (h.1 j hj)]
    show some (if ro + j = ro + k then v else rc j) = some (if j = k then v else rc j)
    by_cases e : j = k
    · subst e; rw [if_pos rfl, if_pos rfl]
    · rw [if_neg e, if_neg (by omega)]
  · rw [set_at h.2.1, if_neg (by omega)]
  · rw [set_at h.2.2.1, if_neg (by omega)]
theorem RecU.num {rb ro : Nat} {rc : Nat → Value} {nf : Nat} {u : Value} {w : World} (h : RecU rb ro rc nf u w) (m : Nat) : RecU rb ro rc m u (w.setCell ⟨rb, ro + 22, none⟩ (.int .i64 m)) := by
  refine ⟨fun j hj => ?_, ?_, ?_, fun j hj => by rw [World.frozen?_setCell]; exact h.2.2.2 j hj⟩
  · rw [set_at (h.1 j hj), if_neg (by omega)]
  · rw [set_at h.2.1, if_pos rfl]
  · rw [set_at h.2.2.1, if_neg (by omega)]
theorem RecU.back {rb ro : Nat} {rc : Nat → Value} {nf : Nat} {u : Value} {w : World} (h : RecU rb ro rc nf u w) (v : Value) : RecU rb ro rc nf v (w.setCell ⟨rb, ro + 23, none⟩ v) := by
  refine ⟨fun j hj => ?_, ?_, ?_, fun j hj => by rw [World.frozen?_setCell]; exact h.2.2.2 j hj⟩
  · rw [set_at (h.1 j hj), if_neg (by omega)]
  · rw [set_at h.2.1, if_neg (by omega)]
  · rw [set_at h.2.2.1, if_pos rfl]

/-- The cells with an attribute more in front. -/
def rcPut (rc : Nat → Value) (n : Nat) (key x y : Value) : Nat → Value := fun j => if j = 7 + n * 3 + 2 then y else if j = 7 + n * 3 + 1 then x else if j = 7 + n * 3 then key else rc j
theorem RecU.put {rb ro : Nat} {rc : Nat → Value} {nf : Nat} {u : Value} {w : World} (h : RecU rb ro rc nf u w) (hn : nf < 5) (key x y : Value) :
    RecU rb ro (rcPut rc nf key x y) nf u (((w.setCell ⟨rb, ro + 7 + nf * 3, none⟩ key).setCell ⟨rb, ro + 7 + nf * 3 + 1, none⟩ x).setCell ⟨rb, ro + 7 + nf * 3 + 2, none⟩ y) := by
  have := ((h.set (7 + nf * 3) (by omega) key).set (7 + nf * 3 + 1) (by omega) x).set (7 + nf * 3 + 2) (by omega) y
  rwa [show ro + (7 + nf * 3) = ro + 7 + nf * 3 by omega, show ro + (7 + nf * 3 + 1) = ro + 7 + nf * 3 + 1 by omega, show ro + (7 + nf * 3 + 2) = ro + 7 + nf * 3 + 2 by omega] at this
theorem RecU.drew {rb ro : Nat} {rc : Nat → Value} {nf : Nat} {u : Value} {w : World} (h : RecU rb ro rc nf u w) : RecU rb ro rc nf u w.drew := h.keep rfl
theorem RecU.put_num {rb ro : Nat} {rc : Nat → Value} {nf m : Nat} {u : Value} {w : World} (h : RecU rb ro rc nf u w) (hn : nf < 5) (hm : m = nf + 1) (key x y : Value) :
    RecU rb ro (rcPut rc nf key x y) m u ((((w.setCell ⟨rb, ro + 7 + nf * 3, none⟩ key).setCell ⟨rb, ro + 7 + nf * 3 + 1, none⟩ x).setCell ⟨rb, ro + 7 + nf * 3 + 2, none⟩ y).setCell ⟨rb, ro + 22, none⟩ (.int .i64 ((nf : Int) + 1))).drew := by
  subst hm
  have := ((h.put hn key x y).num (nf + 1)).drew
  push_cast at this
  exact this
theorem RecU.at3 {rb ro : Nat} {rc : Nat → Value} {nf : Nat} {u : Value} {w : World} (h : RecU rb ro rc nf u w) (hn : nf < 5) :
    w.cell? ⟨rb, ro + 7 + nf * 3, none⟩ = some (rc (7 + nf * 3)) ∧ w.cell? ⟨rb, ro + 7 + nf * 3 + 1, none⟩ = some (rc (7 + nf * 3 + 1)) ∧ w.cell? ⟨rb, ro + 7 + nf * 3 + 2, none⟩ = some (rc (7 + nf * 3 + 2)) ∧
    w.frozen? ⟨rb, ro + 7 + nf * 3, none⟩ = false ∧ w.frozen? ⟨rb, ro + 7 + nf * 3 + 1, none⟩ = false ∧ w.frozen? ⟨rb, ro + 7 + nf * 3 + 2, none⟩ = false := by
  have h0 := h.1 (7 + nf * 3) (by omega)
  have h1 := h.1 (7 + nf * 3 + 1) (by omega)
  have h2 := h.1 (7 + nf * 3 + 2) (by omega)
  have h3 := h.2.2.2 (7 + nf * 3) (by omega)
  have h4 := h.2.2.2 (7 + nf * 3 + 1) (by omega)
  have h5 := h.2.2.2 (7 + nf * 3 + 2) (by omega)
  rw [show ro + (7 + nf * 3) = ro + 7 + nf * 3 by omega] at h0 h3
  rw [show ro + (7 + nf * 3 + 1) = ro + 7 + nf * 3 + 1 by omega] at h1 h4
  rw [show ro + (7 + nf * 3 + 2) = ro + 7 + nf * 3 + 2 by omega] at h2 h5
  exact ⟨h0, h1, h2, h3, h4, h5⟩
theorem FrP.snoc {P : Nat → Prop} {w : World} {key : ByteArray} {d : SVal} {rc rc' : Nat → Value} : ∀ (l : SAttrs) (k : Nat), FrP P w l rc k → (∀ j, j < k + l.len * 3 → rc' j = rc j) → rc' (k + l.len * 3) = .string key →
    RSV P w d (rc' (k + l.len * 3 + 1)) (rc' (k + l.len * 3 + 2)) → FrP P w (SAttrs.snoc l key d) rc' k
  | .nil, k, _, _, h1, h2 => by
    simp only [SAttrs.len, Nat.zero_mul, Nat.add_zero] at h1 h2
    exact ⟨h1, h2, trivial⟩
  | .cons key' v r, k, h, h0, h1, h2 => by
    simp only [SAttrs.len] at h0 h1 h2
    refine ⟨(h0 k (by omega)).trans h.1, by rw [h0 (k + 1) (by omega), h0 (k + 2) (by omega)]; exact h.2.1, FrP.snoc r (k + 3) h.2.2 (fun j hj => h0 j (by omega)) ?_ ?_⟩
    · rw [← h1]; congr 1; omega
    · rw [show k + 3 + r.len * 3 + 1 = k + (r.len + 1) * 3 + 1 by omega, show k + 3 + r.len * 3 + 2 = k + (r.len + 1) * 3 + 2 by omega]; exact h2
theorem frp_put {P : Nat → Prop} {w : World} {l : SAttrs} {rc : Nat → Value} {key : ByteArray} {d : SVal} {x y : Value} (h : FrP P w l rc 7) (hd : RSV P w d x y) : FrP P w (SAttrs.snoc l key d) (rcPut rc l.len (.string key) x y) 7 := by
  refine FrP.snoc l 7 h (fun j hj => ?_) ?_ ?_
  · unfold rcPut; rw [if_neg (by omega), if_neg (by omega), if_neg (by omega)]
  · unfold rcPut; rw [if_neg (by omega), if_neg (by omega), if_pos rfl]
  · unfold rcPut; rw [if_neg (by omega), if_pos rfl, if_pos rfl]; exact hd

/-- A row of one's own is kept where its block is. -/
theorem own_keep {w w' : World} {base : Nat} {e : TypeId} {size : Nat} {v : Value} {n : Nat} {xs : List Value} {P : Nat → Prop} (h : w.ownsRow base e size v n xs) (hk : KeepsOn P w w') (hp : ∀ k, v.ownBlock = some k → P k) : w'.ownsRow base e size v n xs := by
  refine ⟨h.1, ?_⟩
  rcases h.2 with hn | ⟨g, cap, cur, rfl, hbg, hgg, rest⟩
  · exact .inl hn
  · refine .inr ⟨g, cap, cur, rfl, hbg, ?_, rest⟩
    rw [hk g (hp g rfl) (Array.getElem?_eq_some_iff.1 hgg).1]
    exact hgg
theorem KeepsOn.mono {P Q : Nat → Prop} {w w' : World} (h : KeepsOn P w w') (hq : ∀ b, Q b → P b) : KeepsOn Q w w' := fun b hb hlt => h b (hq b hb) hlt
/-- A call, three stores into a block, a call. -/
theorem keep4 {wr w2 w4 : World} {g : Nat} {x0 x1 x2 : Value} (h2 : Below wr.heap.size wr w2) (h4 : Below (((w2.setCell ⟨g, 0, none⟩ x0).setCell ⟨g, 1, none⟩ x1).setCell ⟨g, 2, none⟩ x2).heap.size (((w2.setCell ⟨g, 0, none⟩ x0).setCell ⟨g, 1, none⟩ x1).setCell ⟨g, 2, none⟩ x2) w4) :
    KeepsOn (fun b => b ≠ g) wr w4 :=
  ((((keeps_of_below h2).on _).trans ((((KeepsOn.refl _ _).setCell (p := ⟨g, 0, none⟩) (fun b hb => hb) _).setCell (p := ⟨g, 1, none⟩) (fun b hb => hb) _).setCell (p := ⟨g, 2, none⟩) (fun b hb => hb) _)).trans ((keeps_of_below h4).on _))

/-- Four stores into one block, and a draw. -/
theorem put_keep {P : Nat → Prop} (w : World) (rb a b c d : Nat) (x0 x1 x2 x3 : Value) (hP : ∀ k, P k → k ≠ rb) : KeepsOn P w ((((w.setCell ⟨rb, a, none⟩ x0).setCell ⟨rb, b, none⟩ x1).setCell ⟨rb, c, none⟩ x2).setCell ⟨rb, d, none⟩ x3).drew :=
  (((((KeepsOn.refl _ w).setCell (p := ⟨rb, a, none⟩) hP _).setCell (p := ⟨rb, b, none⟩) hP _).setCell (p := ⟨rb, c, none⟩) hP _).setCell (p := ⟨rb, d, none⟩) hP _).drew

/-- The blocks in which a record's attributes may lie. -/
def Ap (P : Nat → Prop) (rb g : Nat) (u : Value) : Nat → Prop := fun b => P b ∧ b ≠ rb ∧ b ≠ g ∧ some b ≠ u.ownBlock
theorem ap_q {P : Nat → Prop} {rb g : Nat} {u v : Value} {w : World} (hN : NewRow u v w) : ∀ b, Ap P rb g u b → b < w.heap.size → Ap P rb g v b := by
  rintro b ⟨h1, h2, h3, h4⟩ h5
  refine ⟨h1, h2, h3, fun e => ?_⟩
  rcases hN with h | ⟨x, h, hx⟩
  · exact h4 (e.trans h)
  · rw [h] at e
    injection e with e
    omega

theorem VarBox.keep {w w' : World} {g : Nat} (h : VarBox g w) (hk : w'.heap[g]? = w.heap[g]?) : VarBox g w' := by
  have hc : ∀ o, w'.cell? ⟨g, o, none⟩ = w.cell? ⟨g, o, none⟩ := fun o => World.cell?_of_block (a := ⟨g, o, none⟩) hk
  have hf : ∀ o, w'.frozen? ⟨g, o, none⟩ = w.frozen? ⟨g, o, none⟩ := fun o => World.frozen?_of_block (a := ⟨g, o, none⟩) hk
  obtain ⟨⟨v0, v1, v2, h0, h1, h2⟩, f0, f1, f2⟩ := h
  exact ⟨⟨v0, v1, v2, (hc _).trans h0, (hc _).trans h1, (hc _).trans h2⟩, (hf _).trans f0, (hf _).trans f1, (hf _).trans f2⟩
theorem VarBox.lt {w : World} {g : Nat} (h : VarBox g w) : g < w.heap.size := by
  obtain ⟨⟨v0, v1, v2, h0, _, _⟩, _⟩ := h
  exact World.block_lt_of_cell? _ _ h0
theorem slen_zero {l : SAttrs} (h : ¬ 0 < l.len) : l = .nil := by
  cases l with | nil => rfl | cons k v r => exact absurd (Nat.succ_pos _) h
theorem apart_q {P : Nat → Prop} {rb g x cap : Nat} {n : Nat} {v : Value} {w : World} (h : v.ownBlock = some x ∨ w.heap.size ≤ x) : ∀ b, Ap P rb g v b → b < w.heap.size → Ap P rb g (.slice (some ⟨x, 0, none⟩) n cap) b := by
  rintro b ⟨h1, h2, h3, h4⟩ h5
  refine ⟨h1, h2, h3, fun e => ?_⟩
  have e : some b = some x := e
  rcases h with h | h
  · exact h4 (e.trans h.symm)
  · injection e with e
    omega

/-- What is left of an equation on attributes when one is an empty group, is put in front, or behind. -/
theorem add_none {F f b m : SAttrs} {key : ByteArray} {v : SVal} (h : F = SAttrs.append (SAttrs.append f b) (SAttrs.cons key v m).full) (he : v.isEmptyGroup = true) : F = SAttrs.append (SAttrs.append f b) m.full := by
  rw [full_go he] at h; exact h
theorem add_front {F f b m : SAttrs} {key : ByteArray} {v : SVal} (h : F = SAttrs.append (SAttrs.append f b) (SAttrs.cons key v m).full) (he : v.isEmptyGroup = false) (hb : b = .nil) : F = SAttrs.append (SAttrs.append (SAttrs.snoc f key v) b) m.full := by
  subst hb
  rw [full_stay he] at h
  rw [h, sappend_nil, sappend_nil, ssnoc_append]
theorem add_back {F f b m : SAttrs} {key : ByteArray} {v : SVal} (h : F = SAttrs.append (SAttrs.append f b) (SAttrs.cons key v m).full) (he : v.isEmptyGroup = false) : F = SAttrs.append (SAttrs.append f (SAttrs.snoc b key v)) m.full := by
  rw [full_stay he] at h
  rw [h, sappend_assoc, sappend_assoc, ssnoc_append]

end Go.Proofs.YtihhgnbgejjijaaGreatDoor.Va

/- slog.countAttrs: the walk. -/
namespace Go.Proofs.YtihhgnbgejjijaaGreatDoor.Va
set_option linter.unusedVariables false
set_option linter.unusedSimpArgs false
open Go Go.RowKit

theorem RAnys.at {P : Nat → Prop} {w : World} : ∀ (l : List GArg) (b o k : Nat), RAnys P w l b o → k < l.length → ∃ z, w.cell? ⟨b, o + k, none⟩ = some z ∧ (z = .nilIface ∨ ∃ t u, z = .iface t u)
  | [], _, _, _, _, h => absurd h (by simp)
  | a :: r, b, o, 0, h, _ => by obtain ⟨⟨z, h0, hz⟩, _⟩ := h; exact ⟨z, h0, hz.shape⟩
  | a :: r, b, o, k + 1, h, hk => by
    have := RAnys.at r b (o + 1) k h.2 (by simpa using hk)
    rwa [show o + 1 + k = o + (k + 1) by omega] at this

set_option maxRecDepth 100000 in
set_option maxHeartbeats 1000000 in
/-- slog.countAttrs: not more than there are. -/
theorem countA_any {P : Nat → Prop} (l : List GArg) (w : World) (A : Option Addr) (len cap : Nat) (h : RAnyS P w l A len) (hlen : len ≤ 300000) :
    Calls Tryz.prog 111 #[.slice A len cap] w fun e w' => ∃ n : Nat, e = .returned (.int .i64 n) ∧ n ≤ len ∧ Below w.heap.size w w' := by
  obtain ⟨h0, h1⟩ := h
  have H := Lib.hid (And.intro h0 h1)
  clear h0 h1
  go_enter Tryz.func111, Tryz.ntmps111
  go_wp2
  go_loopw [3, 4] (fun x y wr => ∃ n k : Nat, x = .int .i64 n ∧ y = .int .i64 k ∧ n ≤ k ∧ n ≤ len ∧ k ≤ len + 1 ∧ wr = w) (fun _ y _ => len + 1 - (intOf y).toNat)
  case atStart => exact ⟨0, 0, rfl, rfl, Nat.le_refl _, Nat.zero_le _, Nat.zero_le _, rfl⟩
  case round =>
    obtain ⟨n, k, rfl, rfl, hnk, hnl, hkl, rfl⟩ := hrel
    by_cases hk : k < len
    · obtain ⟨b, o, rfl, _, hr⟩ := H.out.2 (by omega)
      obtain ⟨z, hz, hs⟩ := RAnys.at l b o k hr (by have := H.out.1; omega)
      clear hr
      have hki : (k : Int) < (len : Int) := by omega
      have hk0 : (0 : Int) ≤ (k : Int) := by omega
      rcases hs with rfl | ⟨t, u, rfl⟩
      · go_wp2
        exact ⟨⟨n + 1, k + 1, by push_cast; rfl, by push_cast; rfl, by omega, by omega, by omega, trivial⟩, by simp only [intOf]; omega⟩
      · by_cases ht : t = 9
        · subst ht
          go_wp2
          exact ⟨⟨n + 1, k + 1 + 1, by push_cast; rfl, by push_cast; rfl, by omega, by omega, by omega, trivial⟩, by simp only [intOf]; omega⟩
        · go_wp2
          exact ⟨⟨n + 1, k + 1, by push_cast; rfl, by push_cast; rfl, by omega, by omega, by omega, trivial⟩, by simp only [intOf]; omega⟩
    · have hke : ¬ ((k : Int) < (len : Int)) := by omega
      go_wp2
      go_ret
      exact ⟨n, rfl, hnl, Below.refl _ _⟩

end Go.Proofs.YtihhgnbgejjijaaGreatDoor.Va

/- Record.Add: the walk. -/
namespace Go.Proofs.YtihhgnbgejjijaaGreatDoor.Va
set_option linter.unusedVariables false
set_option linter.unusedSimpArgs false
open Go Go.RowKit

/-- What an attribute more leaves of a record. -/
def AddEnd (P : Nat → Prop) (base rb ro : Nat) (rc : Nat → Value) (u : Value) (all : SAttrs) (w : World) (e : Ending) (w' : World) : Prop :=
  e = .returned (.tuple #[]) ∧ ∃ (rc' : Nat → Value) (f' b' : SAttrs) (v : Value) (m : Nat) (ys : List Value), RecU rb ro rc' f'.len v w' ∧ (∀ j, j < 7 → rc' j = rc j) ∧ FrP (fun b => P b ∧ b ≠ rb ∧ some b ≠ v.ownBlock) w' f' rc' 7 ∧ f'.len ≤ 5 ∧
    w'.ownsRow base 111 3 v m ys ∧ RSX (fun b => P b ∧ b ≠ rb ∧ some b ≠ v.ownBlock) w' b' ys ∧ (0 < b'.len → f'.len = 5) ∧ some rb ≠ v.ownBlock ∧ SAttrs.append f' b' = all ∧ Two rb u.ownBlock w w' ∧ NewRow u v w
/-- One round. -/
def AddRnd (P : Nat → Prop) (base rb ro g : Nat) (rc : Nat → Value) (u : Value) (F : SAttrs) (w : World) (s1 : Value) (wr : World) : Prop :=
  ∃ (rest : List GArg) (A : Option Addr) (len cap : Nat) (rc' : Nat → Value) (f b : SAttrs) (v : Value) (n : Nat) (xs : List Value), s1 = .slice A len cap ∧ RAnyS (Ap P rb g v) wr rest A len ∧ len ≤ cap ∧
    RecU rb ro rc' f.len v wr ∧ (∀ j, j < 7 → rc' j = rc j) ∧ FrP (Ap P rb g v) wr f rc' 7 ∧ f.len ≤ 5 ∧ wr.ownsRow base 111 3 v n xs ∧ RSX (Ap P rb g v) wr b xs ∧ (0 < b.len → f.len = 5) ∧ some rb ≠ v.ownBlock ∧ some g ≠ v.ownBlock ∧
    F = SAttrs.append (SAttrs.append f b) (attrsOf none (rcRaw rest)).full ∧ f.len + b.len + rest.length ≤ 299999 ∧ argsOk rest ∧ argsWf rest ∧ pairsOk rest ∧ VarBox g wr ∧ Two rb u.ownBlock w wr ∧ NewRow u v w

set_option maxRecDepth 100000 in
set_option maxHeartbeats 2000000 in
/-- (*Record).Add. -/
theorem add_any {P : Nat → Prop} (base rb ro : Nat) (rc : Nat → Value) (f bk : SAttrs) (u : Value) (n : Nat) (xs : List Value) (l : List GArg) (w : World) (A : Option Addr) (len cap : Nat) (hR : RecU rb ro rc f.len u w)
    (hf : FrP P w f rc 7) (hfl : f.len ≤ 5) (hown : w.ownsRow base 111 3 u n xs) (hx : RSX P w bk xs) (hfb : 0 < bk.len → f.len = 5) (hru : some rb ≠ u.ownBlock) (h : RAnyS P w l A len) (hlc : len ≤ cap) (hok : argsOk l) (hwf : argsWf l) (hp : pairsOk l)
    (hlen : f.len + bk.len + l.length ≤ 299999) (hP : ∀ b, w.heap.size ≤ b → P b) (hPr : ∀ b, P b → b < w.heap.size → b ≠ rb ∧ some b ≠ u.ownBlock) (hbase : base ≤ w.heap.size) :
    Calls Tryz.prog 65 #[.pointer (some ⟨rb, ro, none⟩), .slice A len cap] w (AddEnd P base rb ro rc u (SAttrs.append (SAttrs.append f bk) (attrsOf none (rcRaw l)).full) w) := by
  obtain ⟨i0, hi, hz0, hz1, hz2⟩ := info_parts infoSAttr
  have hrb := hR.lt
  have hol := hown.lt
  have hgu : some w.heap.size ≠ u.ownBlock := fun e => by have := hol _ e.symm; omega
  have hq : ∀ b, P b → b < w.heap.size → Ap P rb w.heap.size u b := fun b h1 h2 => ⟨h1, (hPr b h1 h2).1, by omega, (hPr b h1 h2).2⟩
  obtain ⟨F, hF⟩ : ∃ F, F = SAttrs.append (SAttrs.append f bk) (attrsOf none (rcRaw l)).full := ⟨_, rfl⟩
  rw [← hF]
  obtain ⟨Q, hQ⟩ : ∃ Q : Ending → World → Prop, Q = AddEnd P base rb ro rc u F w := ⟨_, rfl⟩
  rw [← hQ]
  have HQ := Lib.hid hQ
  have HB1 := Lib.hid (show Below w.heap.size w (w.alloc (.cells #[.string ⟨#[]⟩, .int .u64 0, .nilIface] 111)) from (Below.refl _ _).alloc (Nat.le_refl _) _)
  have HV1 : VarBox w.heap.size (w.alloc (.cells #[.string ⟨#[]⟩, .int .u64 0, .nilIface] 111)) := by
    refine ⟨⟨_, _, _, cell_new _ _ _ _ _ _ rfl rfl, cell_new _ _ _ _ _ _ rfl rfl, cell_new _ _ _ _ _ _ rfl rfl⟩, ?_, ?_, ?_⟩
    all_goals (simp [go_sem])
  have hs1 : (w.alloc (.cells #[.string ⟨#[]⟩, .int .u64 0, .nilIface] 111)).heap.size = w.heap.size + 1 := by simp
  have hst := Lib.hid (show AddRnd P base rb ro w.heap.size rc u F w (.slice A len cap) (w.alloc (.cells #[.string ⟨#[]⟩, .int .u64 0, .nilIface] 111)) from
    ⟨l, A, len, cap, rc, f, bk, u, n, xs, rfl, h.turn ((keeps_of_below HB1.out).on _) hq, hlc, hR.keep (HB1.out.block rb hrb), fun _ _ => rfl, FrP.turn ((keeps_of_below HB1.out).on _) hq f rc 7 hf, hfl, own_below hown HB1.out, RSX.turn ((keeps_of_below HB1.out).on _) hq bk xs hx, hfb, hru, hgu, hF, hlen, hok, hwf, hp, HV1, Two.of_below HB1.out, .inl rfl⟩)
  have hsn : ∀ (a : Option Addr) (l c : Nat) (w : World), (binOp .eql 113 (.slice a l c) (.slice none 0 0)).run Tryz.prog w = .ok (.bool a.isNone) w := fun a l c w => Go.Lib.run_eql_slice_nil w 113 111 a l c 0 0 Tryz.underlying113
  have HP := Lib.hid hP
  have HRB := Lib.hid hrb
  clear hQ hR hf hfl hown hx hfb hru h hlc hok hwf hp hlen hPr hq hF HV1 hol hgu hP
  go_enter Tryz.func65, Tryz.ntmps65
  go_wp2
  generalize w.alloc (.cells #[.string ⟨#[]⟩, .int .u64 0, .nilIface] 111) = W1 at HB1 hs1 hst ⊢
  have HS1 := Lib.hid hs1
  clear hs1
  clear n xs f bk l
  go_loopw [1] (fun x wr => AddRnd P base rb ro w.heap.size rc u F w x wr) (fun x _ => lenOf x)
  case atStart => exact hst.out
  case round =>
    clear hst
    clear A len cap
    obtain ⟨rest, A, len, cap, rc', f, b, v, n, xs, rfl, ⟨hl0, hl1⟩, hlc, hR, hrc, hf, hfl, hown, hx, hfb, hru, hgu, hval, hlen, hok, hwf, hp, ⟨⟨v0, v1, v2, k0, k1, k2⟩, f0, f1, f2⟩, hT, hN⟩ := hrel
    have hrl := hR.lt
    have hol := hown.lt
    have hgl : w.heap.size < wr.heap.size := World.block_lt_of_cell? _ _ k0
    have hsz := hT.size
    have hn : n = b.len := by have h1 := hown.1; have h2 := RSX.len b xs hx; omega
    have HF := Lib.hid hf
    have HX := Lib.hid hx
    have HO := Lib.hid hown
    have HR := Lib.hid hR
    have HT := Lib.hid hT
    have HN := Lib.hid hN
    have HRC := Lib.hid hrc
    have HFB := Lib.hid hfb
    have HFL := Lib.hid hfl
    have HRU := Lib.hid hru
    have HGU := Lib.hid hgu
    have hb1 := HS1.out
    have hNw : NewRow u v w := hN
    cases rest with
    | nil =>
      replace hl0 : len = 0 := hl0
      subst hl0
      have hval : F = SAttrs.append f b := by rw [hval]; show SAttrs.append (SAttrs.append f b) (attrsOf none .nil).full = _; rw [attrsOf_nil]; exact sappend_nil _
      have Hval := Lib.hid hval
      have HNw := Lib.hid hNw
      clear hR hrc hf hown hx hfb hru hgu hval hlen hok hwf hp hT hN hNw hl1 hol hn hfl hb1
      go_wp2
      refine bodyPost_ret (v := .tuple #[]) (by simp [results, Tryz.results65, go_sem]) rfl ?_
      rw [HQ.out]
      have hap : ∀ b, Ap P rb w.heap.size v b → b < wr.heap.size → (P b ∧ b ≠ rb ∧ some b ≠ v.ownBlock) := fun b h _ => ⟨h.1, h.2.1, h.2.2.2⟩
      exact ⟨rfl, rc', f, b, v, n, xs, HR.out, HRC.out, FrP.turn (KeepsOn.refl _ _) hap f rc' 7 HF.out, HFL.out, HO.out, RSX.turn (KeepsOn.refl _ _) hap b xs HX.out, HFB.out, HRU.out, Hval.out.symm, HT.out, HNw.out⟩
    | cons a r =>
      have hl : len = r.length + 1 := by simpa using hl0
      have hlp : (0 : Int) < (len : Int) := by omega
      have hAp : ∀ b, wr.heap.size ≤ b → Ap P rb w.heap.size v b := fun b hb => ⟨HP.out b (by omega), by omega, by omega, fun e => by have := (hol b e.symm).2; omega⟩
      have HC := Lib.hid (argsToAttr_any (P := Ap P rb w.heap.size v) a r wr A len cap ⟨hl0, hl1⟩ hlc hok hwf hp hAp)
      have HRs := Lib.hid (toA_rest hok hwf hp)
      have HV := Lib.hid (hval.trans (congrArg (fun m => SAttrs.append (SAttrs.append f b) (SAttrs.full m)) ((congrArg (attrsOf none) (rcRaw_toA a r)).trans (attrsOf_cons none _ _ _))))
      have hac : f.len + b.len + 1 + r.length ≤ 299999 := by simp only [List.length_cons] at hlen; omega
      have hkn : n + 1 ≤ 300000 := by omega
      have Hn := Lib.hid hn
      have Hl := Lib.hid hl
      have HLO := Lib.hid hol
      clear hl0 hl1 hlc hR hrc hf hown hx hfb hru hgu hval hlen hok hwf hp hT hN hNw hAp hol hn hl hb1
      unfold TakePost at HC
      generalize toA a r = TT at HC HRs HV
      obtain ⟨key, d, r2⟩ := TT
      simp only at HC HRs HV
      have HEG := Lib.hid (fun wx x y (h : RSV (Ap P rb w.heap.size v) wx (valueOf none d) x y) => emptyGroup_any (valueOf none d) wx x y h)
      generalize hG : (valueOf none d).isEmptyGroup = G at HEG
      have HG := Lib.hid hG
      clear hG
      have hrl2 : rb < wr.heap.size + 1 := by omega
      have hrg : rb ≠ w.heap.size := by have := HS1.out; have := HRB.out; omega
      cases G with
      | true =>
        clear hrl2
        go_wp2_with (first
          | (go_at_call 109; (with_reducible refine HC.out.mono ?_); rintro e w2 ⟨x2, y2, A2, len2, cap2, rfl, hr2, ha2, hlc2, hb2⟩; obtain ⟨i2, rfl, hy⟩ := rsv_shape hr2; have HR2 := Lib.hid hr2; have HA2 := Lib.hid (And.intro ha2 hlc2); have HL2 := Lib.hid ha2.1; have HBr := Lib.hid hb2; obtain ⟨hc2, hf2⟩ := bcell hb2; have hs2 := hb2.size; have hl2 : w.heap.size < w2.heap.size := (by omega); have hl3 : rb < w2.heap.size := (by omega); have g0 := (hc2 w.heap.size 0 hgl).trans k0; have g1 := (hc2 w.heap.size 1 hgl).trans k1; have g2 := (hc2 w.heap.size 2 hgl).trans k2; have n0 := (hf2 w.heap.size 0 hgl).trans f0; have n1 := (hf2 w.heap.size 1 hgl).trans f1; have n2 := (hf2 w.heap.size 2 hgl).trans f2; clear hr2 ha2 hlc2; rcases hy with rfl | ⟨ty, u2, rfl⟩)
          | (go_at_call 110; have kS : KeepsOn (Ap P rb w.heap.size v) w2 (((w2.setCell ⟨w.heap.size, 0, none⟩ (.string key)).setCell ⟨w.heap.size, 1, none⟩ (.int .u64 i2)).setCell ⟨w.heap.size, 2, none⟩ (.nilIface)) := ((((KeepsOn.refl _ _).setCell (p := ⟨w.heap.size, 0, none⟩) (fun b hb => hb.2.2.1) _).setCell (p := ⟨w.heap.size, 1, none⟩) (fun b hb => hb.2.2.1) _).setCell (p := ⟨w.heap.size, 2, none⟩) (fun b hb => hb.2.2.1) _); (refine (HEG.out _ _ _ (HR2.out.turn kS (fun _ h _ => h))).mono ?_); rintro e w4 ⟨rfl, hb4⟩; have KS := Lib.hid kS; clear kS; have HB4 := Lib.hid hb4; obtain ⟨hc4, hf4⟩ := bcell hb4; have hs4 := hb4.size; simp only [World.size_setCell] at hs4; have g3 : w4.cell? ⟨w.heap.size, 0, none⟩ = some (.string key) := ((hc4 _ 0 (by simpa using hl2)).trans (by simp [go_sem, g0, g1, g2])); have g4 : w4.cell? ⟨w.heap.size, 1, none⟩ = some (.int .u64 i2) := ((hc4 _ 1 (by simpa using hl2)).trans (by simp [go_sem, g0, g1, g2])); have g5 : w4.cell? ⟨w.heap.size, 2, none⟩ = some (.nilIface) := ((hc4 _ 2 (by simpa using hl2)).trans (by simp [go_sem, g0, g1, g2])); have n3 : w4.frozen? ⟨w.heap.size, 0, none⟩ = false := ((hf4 _ 0 (by simpa using hl2)).trans (by simp [go_sem, n0])); have n4 : w4.frozen? ⟨w.heap.size, 1, none⟩ = false := ((hf4 _ 1 (by simpa using hl2)).trans (by simp [go_sem, n1])); have n5 : w4.frozen? ⟨w.heap.size, 2, none⟩ = false := ((hf4 _ 2 (by simpa using hl2)).trans (by simp [go_sem, n2])); have K4 := Lib.hid (keep4 HBr.out hb4); have R4 := Lib.hid (HR.out.keep (K4.out rb hrg hrl)); have q22 := R4.out.2.1; have q23 := R4.out.2.2.1; have z22 := R4.out.2.2.2 22 (by omega); have z23 := R4.out.2.2.2 23 (by omega); clear hc4 hf4 hb4 hc2 hf2 hb2 g0 g1 g2 n0 n1 n2)
          | (go_at_call 110; have kS : KeepsOn (Ap P rb w.heap.size v) w2 (((w2.setCell ⟨w.heap.size, 0, none⟩ (.string key)).setCell ⟨w.heap.size, 1, none⟩ (.int .u64 i2)).setCell ⟨w.heap.size, 2, none⟩ (.iface ty u2)) := ((((KeepsOn.refl _ _).setCell (p := ⟨w.heap.size, 0, none⟩) (fun b hb => hb.2.2.1) _).setCell (p := ⟨w.heap.size, 1, none⟩) (fun b hb => hb.2.2.1) _).setCell (p := ⟨w.heap.size, 2, none⟩) (fun b hb => hb.2.2.1) _); (refine (HEG.out _ _ _ (HR2.out.turn kS (fun _ h _ => h))).mono ?_); rintro e w4 ⟨rfl, hb4⟩; have KS := Lib.hid kS; clear kS; have HB4 := Lib.hid hb4; obtain ⟨hc4, hf4⟩ := bcell hb4; have hs4 := hb4.size; simp only [World.size_setCell] at hs4; have g3 : w4.cell? ⟨w.heap.size, 0, none⟩ = some (.string key) := ((hc4 _ 0 (by simpa using hl2)).trans (by simp [go_sem, g0, g1, g2])); have g4 : w4.cell? ⟨w.heap.size, 1, none⟩ = some (.int .u64 i2) := ((hc4 _ 1 (by simpa using hl2)).trans (by simp [go_sem, g0, g1, g2])); have g5 : w4.cell? ⟨w.heap.size, 2, none⟩ = some (.iface ty u2) := ((hc4 _ 2 (by simpa using hl2)).trans (by simp [go_sem, g0, g1, g2])); have n3 : w4.frozen? ⟨w.heap.size, 0, none⟩ = false := ((hf4 _ 0 (by simpa using hl2)).trans (by simp [go_sem, n0])); have n4 : w4.frozen? ⟨w.heap.size, 1, none⟩ = false := ((hf4 _ 1 (by simpa using hl2)).trans (by simp [go_sem, n1])); have n5 : w4.frozen? ⟨w.heap.size, 2, none⟩ = false := ((hf4 _ 2 (by simpa using hl2)).trans (by simp [go_sem, n2])); have K4 := Lib.hid (keep4 HBr.out hb4); have R4 := Lib.hid (HR.out.keep (K4.out rb hrg hrl)); have q22 := R4.out.2.1; have q23 := R4.out.2.2.1; have z22 := R4.out.2.2.2 22 (by omega); have z23 := R4.out.2.2.2 23 (by omega); clear hc4 hf4 hb4 hc2 hf2 hb2 g0 g1 g2 n0 n1 n2))
        all_goals
          have hT4 : Two rb u.ownBlock w w4 := ((((HT.out.below HBr.out).setOwn ⟨w.heap.size, 0, none⟩ (Nat.le_refl _) _).setOwn ⟨w.heap.size, 1, none⟩ (Nat.le_refl _) _).setOwn ⟨w.heap.size, 2, none⟩ (Nat.le_refl _) _).below HB4.out
          have hA4 : KeepsOn (Ap P rb w.heap.size v) w2 w4 := KS.out.trans ((keeps_of_below HB4.out).on _)
          have hB4 : KeepsOn (Ap P rb w.heap.size v) wr w4 := K4.out.mono (fun b hb => hb.2.2.1)
          have hV4 : VarBox w.heap.size w4 := ⟨⟨_, _, _, g3, g4, g5⟩, n3, n4, n5⟩
          refine ⟨⟨r2, A2, len2, cap2, rc', f, b, v, n, xs, rfl, HA2.out.1.turn hA4 (fun _ h _ => h), HA2.out.2, R4.out, HRC.out, FrP.turn hB4 (fun _ h _ => h) f rc' 7 HF.out, HFL.out, own_keep HO.out K4.out (fun k hk e => HGU.out (by rw [← e]; exact hk.symm)), RSX.turn hB4 (fun _ h _ => h) b xs HX.out, HFB.out, HRU.out, HGU.out, add_none HV.out HG.out, ?_, HRs.out.1, HRs.out.2.1, HRs.out.2.2.1, hV4, hT4, HN.out⟩, ?_⟩
          · have := HRs.out.2.2.2; omega
          · simp only [lenOf]; have h1 := HL2.out; have h2 := HRs.out.2.2.2; have h3 := Hl.out; omega
      | false =>
        by_cases h5 : f.len < 5
        · have h5i : (f.len : Int) < 5 := by omega
          have h5z : (0 : Int) ≤ (f.len : Int) := by omega
          have e1 : ¬ ro + 22 = ro + 7 + f.len * 3 := by omega
          have e2 : ¬ ro + 22 = ro + 7 + f.len * 3 + 1 := by omega
          have e3 : ¬ ro + 22 = ro + 7 + f.len * 3 + 2 := by omega
          have hrg2 : ¬ w.heap.size = rb := fun e => hrg e.symm
          go_wp2_with (first
          | (go_at_call 109; (with_reducible refine HC.out.mono ?_); rintro e w2 ⟨x2, y2, A2, len2, cap2, rfl, hr2, ha2, hlc2, hb2⟩; obtain ⟨i2, rfl, hy⟩ := rsv_shape hr2; have HR2 := Lib.hid hr2; have HA2 := Lib.hid (And.intro ha2 hlc2); have HL2 := Lib.hid ha2.1; have HBr := Lib.hid hb2; obtain ⟨hc2, hf2⟩ := bcell hb2; have hs2 := hb2.size; have hl2 : w.heap.size < w2.heap.size := (by omega); have hl3 : rb < w2.heap.size := (by omega); have g0 := (hc2 w.heap.size 0 hgl).trans k0; have g1 := (hc2 w.heap.size 1 hgl).trans k1; have g2 := (hc2 w.heap.size 2 hgl).trans k2; have n0 := (hf2 w.heap.size 0 hgl).trans f0; have n1 := (hf2 w.heap.size 1 hgl).trans f1; have n2 := (hf2 w.heap.size 2 hgl).trans f2; clear hr2 ha2 hlc2; rcases hy with rfl | ⟨ty, u2, rfl⟩)
          | (go_at_call 110; have kS : KeepsOn (Ap P rb w.heap.size v) w2 (((w2.setCell ⟨w.heap.size, 0, none⟩ (.string key)).setCell ⟨w.heap.size, 1, none⟩ (.int .u64 i2)).setCell ⟨w.heap.size, 2, none⟩ (.nilIface)) := ((((KeepsOn.refl _ _).setCell (p := ⟨w.heap.size, 0, none⟩) (fun b hb => hb.2.2.1) _).setCell (p := ⟨w.heap.size, 1, none⟩) (fun b hb => hb.2.2.1) _).setCell (p := ⟨w.heap.size, 2, none⟩) (fun b hb => hb.2.2.1) _); (refine (HEG.out _ _ _ (HR2.out.turn kS (fun _ h _ => h))).mono ?_); rintro e w4 ⟨rfl, hb4⟩; have KS := Lib.hid kS; clear kS; have HB4 := Lib.hid hb4; obtain ⟨hc4, hf4⟩ := bcell hb4; have hs4 := hb4.size; simp only [World.size_setCell] at hs4; have g3 : w4.cell? ⟨w.heap.size, 0, none⟩ = some (.string key) := ((hc4 _ 0 (by simpa using hl2)).trans (by simp [go_sem, g0, g1, g2])); have g4 : w4.cell? ⟨w.heap.size, 1, none⟩ = some (.int .u64 i2) := ((hc4 _ 1 (by simpa using hl2)).trans (by simp [go_sem, g0, g1, g2])); have g5 : w4.cell? ⟨w.heap.size, 2, none⟩ = some (.nilIface) := ((hc4 _ 2 (by simpa using hl2)).trans (by simp [go_sem, g0, g1, g2])); have n3 : w4.frozen? ⟨w.heap.size, 0, none⟩ = false := ((hf4 _ 0 (by simpa using hl2)).trans (by simp [go_sem, n0])); have n4 : w4.frozen? ⟨w.heap.size, 1, none⟩ = false := ((hf4 _ 1 (by simpa using hl2)).trans (by simp [go_sem, n1])); have n5 : w4.frozen? ⟨w.heap.size, 2, none⟩ = false := ((hf4 _ 2 (by simpa using hl2)).trans (by simp [go_sem, n2])); have K4 := Lib.hid (keep4 HBr.out hb4); have R4 := Lib.hid (HR.out.keep (K4.out rb hrg hrl)); have q22 := R4.out.2.1; have q23 := R4.out.2.2.1; have z22 := R4.out.2.2.2 22 (by omega); have z23 := R4.out.2.2.2 23 (by omega); obtain ⟨p0, p1, p2, z0, z1, z2⟩ := R4.out.at3 h5; clear hc4 hf4 hb4 hc2 hf2 hb2 g0 g1 g2 n0 n1 n2)
          | (go_at_call 110; have kS : KeepsOn (Ap P rb w.heap.size v) w2 (((w2.setCell ⟨w.heap.size, 0, none⟩ (.string key)).setCell ⟨w.heap.size, 1, none⟩ (.int .u64 i2)).setCell ⟨w.heap.size, 2, none⟩ (.iface ty u2)) := ((((KeepsOn.refl _ _).setCell (p := ⟨w.heap.size, 0, none⟩) (fun b hb => hb.2.2.1) _).setCell (p := ⟨w.heap.size, 1, none⟩) (fun b hb => hb.2.2.1) _).setCell (p := ⟨w.heap.size, 2, none⟩) (fun b hb => hb.2.2.1) _); (refine (HEG.out _ _ _ (HR2.out.turn kS (fun _ h _ => h))).mono ?_); rintro e w4 ⟨rfl, hb4⟩; have KS := Lib.hid kS; clear kS; have HB4 := Lib.hid hb4; obtain ⟨hc4, hf4⟩ := bcell hb4; have hs4 := hb4.size; simp only [World.size_setCell] at hs4; have g3 : w4.cell? ⟨w.heap.size, 0, none⟩ = some (.string key) := ((hc4 _ 0 (by simpa using hl2)).trans (by simp [go_sem, g0, g1, g2])); have g4 : w4.cell? ⟨w.heap.size, 1, none⟩ = some (.int .u64 i2) := ((hc4 _ 1 (by simpa using hl2)).trans (by simp [go_sem, g0, g1, g2])); have g5 : w4.cell? ⟨w.heap.size, 2, none⟩ = some (.iface ty u2) := ((hc4 _ 2 (by simpa using hl2)).trans (by simp [go_sem, g0, g1, g2])); have n3 : w4.frozen? ⟨w.heap.size, 0, none⟩ = false := ((hf4 _ 0 (by simpa using hl2)).trans (by simp [go_sem, n0])); have n4 : w4.frozen? ⟨w.heap.size, 1, none⟩ = false := ((hf4 _ 1 (by simpa using hl2)).trans (by simp [go_sem, n1])); have n5 : w4.frozen? ⟨w.heap.size, 2, none⟩ = false := ((hf4 _ 2 (by simpa using hl2)).trans (by simp [go_sem, n2])); have K4 := Lib.hid (keep4 HBr.out hb4); have R4 := Lib.hid (HR.out.keep (K4.out rb hrg hrl)); have q22 := R4.out.2.1; have q23 := R4.out.2.2.1; have z22 := R4.out.2.2.2 22 (by omega); have z23 := R4.out.2.2.2 23 (by omega); obtain ⟨p0, p1, p2, z0, z1, z2⟩ := R4.out.at3 h5; clear hc4 hf4 hb4 hc2 hf2 hb2 g0 g1 g2 n0 n1 n2))
          all_goals
            go_region_law fail
          all_goals
            go_wp2
          all_goals
            have hT4 : Two rb u.ownBlock w w4 := ((((HT.out.below HBr.out).setOwn ⟨w.heap.size, 0, none⟩ (Nat.le_refl _) _).setOwn ⟨w.heap.size, 1, none⟩ (Nat.le_refl _) _).setOwn ⟨w.heap.size, 2, none⟩ (Nat.le_refl _) _).below HB4.out
            have hA4 : KeepsOn (Ap P rb w.heap.size v) w2 w4 := KS.out.trans ((keeps_of_below HB4.out).on _)
            have hB4 : KeepsOn (Ap P rb w.heap.size v) wr w4 := K4.out.mono (fun b hb => hb.2.2.1)
            have hV4 : VarBox w.heap.size w4 := ⟨⟨_, _, _, g3, g4, g5⟩, n3, n4, n5⟩
            have hb0 : b = .nil := slen_zero (fun h => by have := HFB.out h; omega)
            have hAp : ∀ k, Ap P rb w.heap.size v k → k ≠ rb := fun k hk => hk.2.1
            refine ⟨⟨r2, A2, len2, cap2, rcPut rc' f.len (.string key) (.int .u64 i2) _, SAttrs.snoc f key (valueOf none d), b, v, n, xs, rfl, HA2.out.1.turn (hA4.trans (put_keep w4 rb _ _ _ _ _ _ _ _ hAp)) (fun _ h _ => h), HA2.out.2, ?_, fun j hj => (by unfold rcPut; rw [if_neg (by omega), if_neg (by omega), if_neg (by omega)]; exact HRC.out j hj), frp_put (FrP.turn (hB4.trans (put_keep w4 rb _ _ _ _ _ _ _ _ hAp)) (fun _ h _ => h) f rc' 7 HF.out) (HR2.out.turn (hA4.trans (put_keep w4 rb _ _ _ _ _ _ _ _ hAp)) (fun _ h _ => h)), by rw [slen_snoc]; omega, own_keep (own_keep HO.out K4.out (fun k hk e => HGU.out (by rw [← e]; exact hk.symm))) (put_keep w4 rb _ _ _ _ _ _ _ _ (fun _ h => h)) (fun k hk e => HRU.out (by rw [← e]; exact hk.symm)), RSX.turn (hB4.trans (put_keep w4 rb _ _ _ _ _ _ _ _ hAp)) (fun _ h _ => h) b xs HX.out, fun h => absurd h (by rw [hb0]; exact Nat.lt_irrefl _), HRU.out, HGU.out, add_front HV.out HG.out hb0, ?_, HRs.out.1, HRs.out.2.1, HRs.out.2.2.1, hV4.keep ((put_keep (P := fun k => k ≠ rb) w4 rb _ _ _ _ _ _ _ _ (fun _ h => h)) _ hrg2 hV4.lt), ((((hT4.set _ _).set _ _).set _ _).set _ _).drew, HN.out⟩, ?_⟩
            · exact R4.out.put_num h5 (slen_snoc _ _ _) _ _ _
            · rw [slen_snoc]; have := HRs.out.2.2.2; omega
            · simp only [lenOf]; have h1 := HL2.out; have h2 := HRs.out.2.2.2; have h3 := Hl.out; omega
        · have h5i : ¬ (f.len : Int) < 5 := by omega
          have hrg2 : w.heap.size ≠ rb := fun e => hrg e.symm
          have H5 := Lib.hid (show f.len = 5 by omega)
          rcases HO.out.2 with ⟨rfl, rfl⟩ | ⟨gb, cap0, cur0, rfl, hgb⟩
          · obtain rfl : xs = [] := List.eq_nil_of_length_eq_zero (by have := HO.out.1; simpa using this)
            go_wp2_with (first
          | (go_at_call 109; (with_reducible refine HC.out.mono ?_); rintro e w2 ⟨x2, y2, A2, len2, cap2, rfl, hr2, ha2, hlc2, hb2⟩; obtain ⟨i2, rfl, hy⟩ := rsv_shape hr2; have HR2 := Lib.hid hr2; have HA2 := Lib.hid (And.intro ha2 hlc2); have HL2 := Lib.hid ha2.1; have HBr := Lib.hid hb2; obtain ⟨hc2, hf2⟩ := bcell hb2; have hs2 := hb2.size; have hl2 : w.heap.size < w2.heap.size := (by omega); have hl3 : rb < w2.heap.size := (by omega); have g0 := (hc2 w.heap.size 0 hgl).trans k0; have g1 := (hc2 w.heap.size 1 hgl).trans k1; have g2 := (hc2 w.heap.size 2 hgl).trans k2; have n0 := (hf2 w.heap.size 0 hgl).trans f0; have n1 := (hf2 w.heap.size 1 hgl).trans f1; have n2 := (hf2 w.heap.size 2 hgl).trans f2; clear hr2 ha2 hlc2; rcases hy with rfl | ⟨ty, u2, rfl⟩)
          | (go_at_call 110; have kS : KeepsOn (Ap P rb w.heap.size (Value.slice none 0 0)) w2 (((w2.setCell ⟨w.heap.size, 0, none⟩ (.string key)).setCell ⟨w.heap.size, 1, none⟩ (.int .u64 i2)).setCell ⟨w.heap.size, 2, none⟩ (.nilIface)) := ((((KeepsOn.refl _ _).setCell (p := ⟨w.heap.size, 0, none⟩) (fun b hb => hb.2.2.1) _).setCell (p := ⟨w.heap.size, 1, none⟩) (fun b hb => hb.2.2.1) _).setCell (p := ⟨w.heap.size, 2, none⟩) (fun b hb => hb.2.2.1) _); (refine (HEG.out _ _ _ (HR2.out.turn kS (fun _ h _ => h))).mono ?_); rintro e w4 ⟨rfl, hb4⟩; have KS := Lib.hid kS; clear kS; have HB4 := Lib.hid hb4; obtain ⟨hc4, hf4⟩ := bcell hb4; have hs4 := hb4.size; simp only [World.size_setCell] at hs4; have g3 : w4.cell? ⟨w.heap.size, 0, none⟩ = some (.string key) := ((hc4 _ 0 (by simpa using hl2)).trans (by simp [go_sem, g0, g1, g2])); have g4 : w4.cell? ⟨w.heap.size, 1, none⟩ = some (.int .u64 i2) := ((hc4 _ 1 (by simpa using hl2)).trans (by simp [go_sem, g0, g1, g2])); have g5 : w4.cell? ⟨w.heap.size, 2, none⟩ = some (.nilIface) := ((hc4 _ 2 (by simpa using hl2)).trans (by simp [go_sem, g0, g1, g2])); have n3 : w4.frozen? ⟨w.heap.size, 0, none⟩ = false := ((hf4 _ 0 (by simpa using hl2)).trans (by simp [go_sem, n0])); have n4 : w4.frozen? ⟨w.heap.size, 1, none⟩ = false := ((hf4 _ 1 (by simpa using hl2)).trans (by simp [go_sem, n1])); have n5 : w4.frozen? ⟨w.heap.size, 2, none⟩ = false := ((hf4 _ 2 (by simpa using hl2)).trans (by simp [go_sem, n2])); have K4 := Lib.hid (keep4 HBr.out hb4); have R4 := Lib.hid (HR.out.keep (K4.out rb hrg hrl)); have q22 := R4.out.2.1; have q23 := R4.out.2.2.1; have z22 := R4.out.2.2.2 22 (by omega); have z23 := R4.out.2.2.2 23 (by omega); clear hc4 hf4 hb4 hc2 hf2 hb2 g0 g1 g2 n0 n1 n2)
          | (go_at_call 110; have kS : KeepsOn (Ap P rb w.heap.size (Value.slice none 0 0)) w2 (((w2.setCell ⟨w.heap.size, 0, none⟩ (.string key)).setCell ⟨w.heap.size, 1, none⟩ (.int .u64 i2)).setCell ⟨w.heap.size, 2, none⟩ (.iface ty u2)) := ((((KeepsOn.refl _ _).setCell (p := ⟨w.heap.size, 0, none⟩) (fun b hb => hb.2.2.1) _).setCell (p := ⟨w.heap.size, 1, none⟩) (fun b hb => hb.2.2.1) _).setCell (p := ⟨w.heap.size, 2, none⟩) (fun b hb => hb.2.2.1) _); (refine (HEG.out _ _ _ (HR2.out.turn kS (fun _ h _ => h))).mono ?_); rintro e w4 ⟨rfl, hb4⟩; have KS := Lib.hid kS; clear kS; have HB4 := Lib.hid hb4; obtain ⟨hc4, hf4⟩ := bcell hb4; have hs4 := hb4.size; simp only [World.size_setCell] at hs4; have g3 : w4.cell? ⟨w.heap.size, 0, none⟩ = some (.string key) := ((hc4 _ 0 (by simpa using hl2)).trans (by simp [go_sem, g0, g1, g2])); have g4 : w4.cell? ⟨w.heap.size, 1, none⟩ = some (.int .u64 i2) := ((hc4 _ 1 (by simpa using hl2)).trans (by simp [go_sem, g0, g1, g2])); have g5 : w4.cell? ⟨w.heap.size, 2, none⟩ = some (.iface ty u2) := ((hc4 _ 2 (by simpa using hl2)).trans (by simp [go_sem, g0, g1, g2])); have n3 : w4.frozen? ⟨w.heap.size, 0, none⟩ = false := ((hf4 _ 0 (by simpa using hl2)).trans (by simp [go_sem, n0])); have n4 : w4.frozen? ⟨w.heap.size, 1, none⟩ = false := ((hf4 _ 1 (by simpa using hl2)).trans (by simp [go_sem, n1])); have n5 : w4.frozen? ⟨w.heap.size, 2, none⟩ = false := ((hf4 _ 2 (by simpa using hl2)).trans (by simp [go_sem, n2])); have K4 := Lib.hid (keep4 HBr.out hb4); have R4 := Lib.hid (HR.out.keep (K4.out rb hrg hrl)); have q22 := R4.out.2.1; have q23 := R4.out.2.2.1; have z22 := R4.out.2.2.2 22 (by omega); have z23 := R4.out.2.2.2 23 (by omega); clear hc4 hf4 hb4 hc2 hf2 hb2 g0 g1 g2 n0 n1 n2)
          | (go_at_call 111; (refine (countA_any (P := Ap P rb w.heap.size (Value.slice none 0 0)) r2 w4 A2 len2 cap2 (HA2.out.1.turn (KS.out.trans ((keeps_of_below HB4.out).on _)) (fun _ h _ => h)) (by have := HL2.out; have := HRs.out.2.2.2; omega)).mono ?_); rintro e w5 ⟨nn, rfl, hnn, hb5⟩; have HB5 := Lib.hid hb5; have hs5 := hb5.size; obtain ⟨hc5, hf5⟩ := bcell hb5; have hr4 : rb < w4.heap.size := (by omega); have q5 := (hc5 rb (ro + 23) hr4).trans q23; have z5 := (hf5 rb (ro + 23) hr4).trans z23; have hnn2 : nn ≤ 299999 := (by have := HL2.out; have := HRs.out.2.2.2; omega); have hnn3 : (nn : Int) ≤ 299999 := (by omega); have hnn4 : (0 : Int) ≤ (nn : Int) := (by omega); clear hc5 hf5 hb5)
          | (refine wpList_make_own w5 rfl (.const (.int .i64 0)) (.tmp 45) 113 rfl base 111 i0 _ 3 Tryz.underlying113 hi hz0 hz1 .i64 .i64 _ (nn + 1) rfl rfl (by push_cast; rfl) (by rw [hz2]; omega) (by unfold maxLen; omega) (by omega) ?_; intro w6 hO6 hG6; have hB6 : Below w5.heap.size w5 w6 := ⟨hG6.os, hG6.tape, hG6.output, hG6.size, fun i hi => hG6.block i hi (by simp)⟩; obtain ⟨hc6, hf6⟩ := bcell hB6; have hr5 : rb < w5.heap.size := (by omega); have q6 := (hc6 rb (ro + 23) hr5).trans q5; have z6 := (hf6 rb (ro + 23) hr5).trans z5; have HO6 := Lib.hid hO6; have HB6 := Lib.hid hB6; have hs6 := hB6.size; clear hc6 hf6 hO6 hG6 hB6))
            all_goals
              have hT4 : Two rb u.ownBlock w w4 := ((((HT.out.below HBr.out).setOwn ⟨w.heap.size, 0, none⟩ (Nat.le_refl _) _).setOwn ⟨w.heap.size, 1, none⟩ (Nat.le_refl _) _).setOwn ⟨w.heap.size, 2, none⟩ (Nat.le_refl _) _).below HB4.out
              have hA4 : KeepsOn (Ap P rb w.heap.size (Value.slice none 0 0)) w2 w4 := KS.out.trans ((keeps_of_below HB4.out).on _)
              have hB4 : KeepsOn (Ap P rb w.heap.size (Value.slice none 0 0)) wr w4 := K4.out.mono (fun b hb => hb.2.2.1)
              have hV4 : VarBox w.heap.size w4 := ⟨⟨_, _, _, g3, g4, g5⟩, n3, n4, n5⟩
              have hb6 : w6.heap[rb]? = w4.heap[rb]? := (HB6.out.block rb (by omega)).trans (HB5.out.block rb (by omega))
              have R7 := (R4.out.keep hb6).back (Value.slice (some ⟨w5.heap.size, 0, none⟩) 0 (nn + 1))
              have hbv : some rb ≠ (Value.slice (some ⟨w5.heap.size, 0, none⟩) 0 (nn + 1)).ownBlock := fun e => by have e : some rb = some w5.heap.size := e; injection e with e; omega
              have hgv : some w.heap.size ≠ (Value.slice (some ⟨w5.heap.size, 0, none⟩) 0 (nn + 1)).ownBlock := fun e => by have e : some w.heap.size = some w5.heap.size := e; injection e with e; omega
              have HO7 := Lib.hid (ownsRow_setCell_other (a := ⟨rb, ro + 23, none⟩) HO6.out (fun e => hbv e.symm) (Value.slice (some ⟨w5.heap.size, 0, none⟩) 0 (nn + 1)))
              have hr : KeepsOn (fun b => b ≠ rb) w4 (w6.setCell { block := rb, off := ro + 23 } (Value.slice (some ⟨w5.heap.size, 0, none⟩) 0 (nn + 1))) := ((((keeps_of_below HB5.out).trans (keeps_of_below HB6.out)).on _).setCell (p := ⟨rb, ro + 23, none⟩) (fun b hb => hb) _)
              have hT7 : Two rb u.ownBlock w (w6.setCell { block := rb, off := ro + 23 } (Value.slice (some ⟨w5.heap.size, 0, none⟩) 0 (nn + 1))) := ((hT4.below HB5.out).below HB6.out).set _ _
              have hs7 : w5.heap.size ≤ (w6.setCell { block := rb, off := ro + 23 } (Value.slice (some ⟨w5.heap.size, 0, none⟩) 0 (nn + 1))).heap.size := by simpa using hs6
              have hN7 : NewRow u (Value.slice (some ⟨w5.heap.size, 0, none⟩) 0 (nn + 1)) w := .inr ⟨w5.heap.size, rfl, by omega⟩
              have hq7 : ∀ b, Ap P rb w.heap.size (Value.slice none 0 0) b → b < w4.heap.size → Ap P rb w.heap.size (Value.slice (some ⟨w5.heap.size, 0, none⟩) 0 (nn + 1)) b := fun b h hl => apart_q (w := w5) (.inr (Nat.le_refl _)) b h (by omega)
              generalize w6.setCell { block := rb, off := ro + 23 } (Value.slice (some ⟨w5.heap.size, 0, none⟩) 0 (nn + 1)) = w7 at R7 HO7 hr hT7 hs7 ⊢
              clear HB6 HO6 q5 q6 z5 z6 hb6
              have g6 := hr.cell hrg2 g3
              have g7 := hr.cell hrg2 g4
              have g8 := hr.cell hrg2 g5
              have q73 := R7.2.2.1
              have z73 := R7.2.2.2 23 (by omega)
              have hA7 : KeepsOn (Ap P rb w.heap.size (Value.slice none 0 0)) w2 w7 := hA4.trans (hr.mono (fun b hb => hb.2.1))
              have hB7 : KeepsOn (Ap P rb w.heap.size (Value.slice none 0 0)) wr w7 := hB4.trans (hr.mono (fun b hb => hb.2.1))
              have hV7 : VarBox w.heap.size w7 := hV4.keep (hr _ hrg2 hV4.lt)
              have HF7 := HF
              have HX7 := HX
              have HRU7 := Lib.hid hbv
              have HGU7 := Lib.hid hgv
              have HN7 := Lib.hid hN7
              have hr7 : rb < w7.heap.size := by omega
              have hg7 : w.heap.size < w7.heap.size := by omega
              have Hr := Lib.hid hr
              have HR7 := Lib.hid R7
              clear g3 g4 g5 q22 q23 z22 z23 hbv hgv hN7 n3 n4 n5 hr R7 q73 z73
              have q23 := HR7.out.2.2.1
              have z23 := HR7.out.2.2.2 23 (by omega)
              have HT7 := Lib.hid hT7
              have HA7 := Lib.hid hA7
              have HB7 := Lib.hid hB7
              have HV7 := Lib.hid hV7
              have HQ7 := Lib.hid hq7
              clear hT7 hA7 hB7 hV7 hq7 hT4 hA4 hB4 hV4
            all_goals
              go_region_law (first
                | (refine step_append_lies _ rfl (.tmp 53) (.tmp 55) 113 rfl base 111 i0 _ 3 40 Tryz.underlying113 hi hz0 hz1 hz2 rfl (by decide) _ 0 [] rfl ((HO7.out.drew).alloc _) ⟨_, 0, none⟩ 1 1 [.string key, .int .u64 i2, .nilIface] rfl rfl (by intro j u hj; exact cells_new _ _ _ _ (by simp) j u hj) (by intro u hu; simp at hu; rcases hu with rfl | rfl | rfl; all_goals rfl) (by decide) (by unfold maxLen; omega) (by omega) (by simp; omega) _ rfl ?_; intro x8 cap8 w8 hown8 hgrow8 hat8 hlt8; have q8 : w8.cell? ⟨rb, ro + 23, none⟩ = some (Value.slice (some ⟨w5.heap.size, 0, none⟩) 0 (nn + 1)) := ((World.cell?_of_block (a := ⟨rb, ro + 23, none⟩) (hgrow8.block rb (by simp; omega) HRU7.out)).trans (by simp [go_sem, q23, hr7])); have z8 : w8.frozen? ⟨rb, ro + 23, none⟩ = false := ((World.frozen?_of_block (a := ⟨rb, ro + 23, none⟩) (hgrow8.block rb (by simp; omega) HRU7.out)).trans (by simp [go_sem, z23, hr7])); have HO8 := Lib.hid hown8; have HG8 := Lib.hid hgrow8; have HA8 := Lib.hid hat8; clear hown8 hgrow8 hat8 hlt8)
                | (refine step_append_lies _ rfl (.tmp 53) (.tmp 55) 113 rfl base 111 i0 _ 3 40 Tryz.underlying113 hi hz0 hz1 hz2 rfl (by decide) _ 0 [] rfl ((HO7.out.drew).alloc _) ⟨_, 0, none⟩ 1 1 [.string key, .int .u64 i2, .iface ty u2] rfl rfl (by intro j u hj; exact cells_new _ _ _ _ (by simp) j u hj) (by intro u hu; simp at hu; rcases hu with rfl | rfl | rfl; all_goals rfl) (by decide) (by unfold maxLen; omega) (by omega) (by simp; omega) _ rfl ?_; intro x8 cap8 w8 hown8 hgrow8 hat8 hlt8; have q8 : w8.cell? ⟨rb, ro + 23, none⟩ = some (Value.slice (some ⟨w5.heap.size, 0, none⟩) 0 (nn + 1)) := ((World.cell?_of_block (a := ⟨rb, ro + 23, none⟩) (hgrow8.block rb (by simp; omega) HRU7.out)).trans (by simp [go_sem, q23, hr7])); have z8 : w8.frozen? ⟨rb, ro + 23, none⟩ = false := ((World.frozen?_of_block (a := ⟨rb, ro + 23, none⟩) (hgrow8.block rb (by simp; omega) HRU7.out)).trans (by simp [go_sem, z23, hr7])); have HO8 := Lib.hid hown8; have HG8 := Lib.hid hgrow8; have HA8 := Lib.hid hat8; clear hown8 hgrow8 hat8 hlt8))
            all_goals
              go_wp2
            all_goals
              have hT7 := HT7.out
              have hA7 := HA7.out
              have hB7 := HB7.out
              have hV7 := HV7.out
              have hq7 := HQ7.out
              have R7 := HR7
              have hq7b : ∀ b, Ap P rb w.heap.size (Value.slice none 0 0) b → b < w4.heap.size → Ap P rb w.heap.size (Value.slice (some ⟨w5.heap.size, 0, none⟩) 0 (nn + 1)) b := hq7
              obtain hAt : (Value.slice (some ⟨w5.heap.size, 0, none⟩) 0 (nn + 1)).ownBlock = some x8 ∨ x8 = _ := HA8.out
              have hx8 : (Value.slice (some ⟨w5.heap.size, 0, none⟩) 0 (nn + 1)).ownBlock = some x8 ∨ w7.heap.size ≤ x8 := hAt.imp id (fun h => by rw [h]; simp)
              have hG8 : World.grownBy _ w8 (Value.slice (some ⟨w5.heap.size, 0, none⟩) 0 (nn + 1)).ownBlock := HG8.out
              have hKB : ∀ (B : Nat → Prop), (∀ b, B b → some b ≠ (Value.slice (some ⟨w5.heap.size, 0, none⟩) 0 (nn + 1)).ownBlock) → KeepsOn B w7 w8 := fun B hB => ((KeepsOn.refl _ _).drew.alloc _).trans (keepsOn_of_grown hG8 hB)
              have hK8 : KeepsOn (Ap P rb w.heap.size (Value.slice (some ⟨w5.heap.size, 0, none⟩) 0 (nn + 1))) w7 (w8.setCell ⟨rb, ro + 23, none⟩ (.slice (some ⟨x8, 0, none⟩) 1 cap8)) := (hKB _ (fun b hb => hb.2.2.2)).setCell (p := ⟨rb, ro + 23, none⟩) (fun b hb => hb.2.1) _
              have hQ8 : ∀ b, Ap P rb w.heap.size (Value.slice (some ⟨w5.heap.size, 0, none⟩) 0 (nn + 1)) b → b < w7.heap.size → Ap P rb w.heap.size (.slice (some ⟨x8, 0, none⟩) 1 cap8) b := apart_q hx8
              have hbx : some rb ≠ some x8 := fun e => by
                injection e with e
                rcases hx8 with h | h
                · exact HRU7.out (by rw [h, e])
                · omega
              have hgx : some w.heap.size ≠ some x8 := fun e => by
                injection e with e
                rcases hx8 with h | h
                · exact HGU7.out (by rw [h, e])
                · omega
              have hN8 : NewRow (Value.slice (some ⟨w5.heap.size, 0, none⟩) 0 (nn + 1)) (.slice (some ⟨x8, 0, none⟩) 1 cap8) w7 := hx8.imp (fun h => h.symm) (fun h => ⟨x8, rfl, h⟩)
              have hT8 : Two rb u.ownBlock w (w8.setCell ⟨rb, ro + 23, none⟩ (.slice (some ⟨x8, 0, none⟩) 1 cap8)) := ((hT7.drew.alloc _).trans (Two.of_grown hG8) HN7.out).set _ _
              refine ⟨⟨r2, A2, len2, cap2, rc', f, SAttrs.snoc b key (valueOf none d), .slice (some ⟨x8, 0, none⟩) 1 cap8, 1, _, rfl, (HA2.out.1.turn hA7 (fun b h hl => hq7 b h (by omega))).turn hK8 hQ8, HA2.out.2, ((R7.out.drew.keep (w' := w8) (hKB (fun b => b = rb) (fun b hb => hb ▸ HRU7.out) rb rfl hr7)).back _), HRC.out, FrP.turn hK8 hQ8 f rc' 7 (FrP.turn hB7 (fun b h hl => hq7 b h (by omega)) f rc' 7 HF7.out), HFL.out, ownsRow_setCell_other HO8.out (fun e => hbx e.symm) _, RSX.snoc ((HR2.out.turn hA7 (fun b h hl => hq7 b h (by omega))).turn hK8 hQ8) b [] (RSX.turn hK8 hQ8 b [] (RSX.turn hB7 (fun b h hl => hq7 b h (by omega)) b [] HX7.out)), fun _ => H5.out, hbx, hgx, add_back HV.out HG.out, ?_, HRs.out.1, HRs.out.2.1, HRs.out.2.2.1, (hV7.keep (hKB (fun b => b = w.heap.size) (fun b hb => hb ▸ HGU7.out) _ rfl hV7.lt)).keep (Below.heap_setCell _ _ _ _ hrg2), hT8, (HN7.out : NewRow u (Value.slice (some ⟨w5.heap.size, 0, none⟩) 0 (nn + 1)) w).trans hN8 hT7.size⟩, ?_⟩
              · rw [slen_snoc]; have := HRs.out.2.2.2; omega
              · simp only [lenOf]; have h1 := HL2.out; have h2 := HRs.out.2.2.2; have h3 := Hl.out; omega
          · have hgbw := (HLO.out gb rfl).2
            clear hgb
            go_wp2_with (first
          | (go_at_call 109; (with_reducible refine HC.out.mono ?_); rintro e w2 ⟨x2, y2, A2, len2, cap2, rfl, hr2, ha2, hlc2, hb2⟩; obtain ⟨i2, rfl, hy⟩ := rsv_shape hr2; have HR2 := Lib.hid hr2; have HA2 := Lib.hid (And.intro ha2 hlc2); have HL2 := Lib.hid ha2.1; have HBr := Lib.hid hb2; obtain ⟨hc2, hf2⟩ := bcell hb2; have hs2 := hb2.size; have hl2 : w.heap.size < w2.heap.size := (by omega); have hl3 : rb < w2.heap.size := (by omega); have g0 := (hc2 w.heap.size 0 hgl).trans k0; have g1 := (hc2 w.heap.size 1 hgl).trans k1; have g2 := (hc2 w.heap.size 2 hgl).trans k2; have n0 := (hf2 w.heap.size 0 hgl).trans f0; have n1 := (hf2 w.heap.size 1 hgl).trans f1; have n2 := (hf2 w.heap.size 2 hgl).trans f2; clear hr2 ha2 hlc2; rcases hy with rfl | ⟨ty, u2, rfl⟩)
          | (go_at_call 110; have kS : KeepsOn (Ap P rb w.heap.size (Value.slice (some ⟨gb, 0, none⟩) n cap0)) w2 (((w2.setCell ⟨w.heap.size, 0, none⟩ (.string key)).setCell ⟨w.heap.size, 1, none⟩ (.int .u64 i2)).setCell ⟨w.heap.size, 2, none⟩ (.nilIface)) := ((((KeepsOn.refl _ _).setCell (p := ⟨w.heap.size, 0, none⟩) (fun b hb => hb.2.2.1) _).setCell (p := ⟨w.heap.size, 1, none⟩) (fun b hb => hb.2.2.1) _).setCell (p := ⟨w.heap.size, 2, none⟩) (fun b hb => hb.2.2.1) _); (refine (HEG.out _ _ _ (HR2.out.turn kS (fun _ h _ => h))).mono ?_); rintro e w4 ⟨rfl, hb4⟩; have KS := Lib.hid kS; clear kS; have HB4 := Lib.hid hb4; obtain ⟨hc4, hf4⟩ := bcell hb4; have hs4 := hb4.size; simp only [World.size_setCell] at hs4; have g3 : w4.cell? ⟨w.heap.size, 0, none⟩ = some (.string key) := ((hc4 _ 0 (by simpa using hl2)).trans (by simp [go_sem, g0, g1, g2])); have g4 : w4.cell? ⟨w.heap.size, 1, none⟩ = some (.int .u64 i2) := ((hc4 _ 1 (by simpa using hl2)).trans (by simp [go_sem, g0, g1, g2])); have g5 : w4.cell? ⟨w.heap.size, 2, none⟩ = some (.nilIface) := ((hc4 _ 2 (by simpa using hl2)).trans (by simp [go_sem, g0, g1, g2])); have n3 : w4.frozen? ⟨w.heap.size, 0, none⟩ = false := ((hf4 _ 0 (by simpa using hl2)).trans (by simp [go_sem, n0])); have n4 : w4.frozen? ⟨w.heap.size, 1, none⟩ = false := ((hf4 _ 1 (by simpa using hl2)).trans (by simp [go_sem, n1])); have n5 : w4.frozen? ⟨w.heap.size, 2, none⟩ = false := ((hf4 _ 2 (by simpa using hl2)).trans (by simp [go_sem, n2])); have K4 := Lib.hid (keep4 HBr.out hb4); have R4 := Lib.hid (HR.out.keep (K4.out rb hrg hrl)); have q22 := R4.out.2.1; have q23 := R4.out.2.2.1; have z22 := R4.out.2.2.2 22 (by omega); have z23 := R4.out.2.2.2 23 (by omega); clear hc4 hf4 hb4 hc2 hf2 hb2 g0 g1 g2 n0 n1 n2)
          | (go_at_call 110; have kS : KeepsOn (Ap P rb w.heap.size (Value.slice (some ⟨gb, 0, none⟩) n cap0)) w2 (((w2.setCell ⟨w.heap.size, 0, none⟩ (.string key)).setCell ⟨w.heap.size, 1, none⟩ (.int .u64 i2)).setCell ⟨w.heap.size, 2, none⟩ (.iface ty u2)) := ((((KeepsOn.refl _ _).setCell (p := ⟨w.heap.size, 0, none⟩) (fun b hb => hb.2.2.1) _).setCell (p := ⟨w.heap.size, 1, none⟩) (fun b hb => hb.2.2.1) _).setCell (p := ⟨w.heap.size, 2, none⟩) (fun b hb => hb.2.2.1) _); (refine (HEG.out _ _ _ (HR2.out.turn kS (fun _ h _ => h))).mono ?_); rintro e w4 ⟨rfl, hb4⟩; have KS := Lib.hid kS; clear kS; have HB4 := Lib.hid hb4; obtain ⟨hc4, hf4⟩ := bcell hb4; have hs4 := hb4.size; simp only [World.size_setCell] at hs4; have g3 : w4.cell? ⟨w.heap.size, 0, none⟩ = some (.string key) := ((hc4 _ 0 (by simpa using hl2)).trans (by simp [go_sem, g0, g1, g2])); have g4 : w4.cell? ⟨w.heap.size, 1, none⟩ = some (.int .u64 i2) := ((hc4 _ 1 (by simpa using hl2)).trans (by simp [go_sem, g0, g1, g2])); have g5 : w4.cell? ⟨w.heap.size, 2, none⟩ = some (.iface ty u2) := ((hc4 _ 2 (by simpa using hl2)).trans (by simp [go_sem, g0, g1, g2])); have n3 : w4.frozen? ⟨w.heap.size, 0, none⟩ = false := ((hf4 _ 0 (by simpa using hl2)).trans (by simp [go_sem, n0])); have n4 : w4.frozen? ⟨w.heap.size, 1, none⟩ = false := ((hf4 _ 1 (by simpa using hl2)).trans (by simp [go_sem, n1])); have n5 : w4.frozen? ⟨w.heap.size, 2, none⟩ = false := ((hf4 _ 2 (by simpa using hl2)).trans (by simp [go_sem, n2])); have K4 := Lib.hid (keep4 HBr.out hb4); have R4 := Lib.hid (HR.out.keep (K4.out rb hrg hrl)); have q22 := R4.out.2.1; have q23 := R4.out.2.2.1; have z22 := R4.out.2.2.2 22 (by omega); have z23 := R4.out.2.2.2 23 (by omega); clear hc4 hf4 hb4 hc2 hf2 hb2 g0 g1 g2 n0 n1 n2))
            all_goals
              have HO7 := Lib.hid (own_keep HO.out K4.out (fun k hk e => HGU.out (by rw [← e]; exact hk.symm)))
              have HRU7 := HRU
              have hr7 : rb < w4.heap.size := by omega
              have hg7 : w.heap.size < w4.heap.size := by omega
            all_goals
              go_region_law (first
                | (refine step_append_lies _ rfl (.tmp 53) (.tmp 55) 113 rfl base 111 i0 _ 3 40 Tryz.underlying113 hi hz0 hz1 hz2 rfl (by decide) _ n xs rfl ((HO7.out.drew).alloc _) ⟨_, 0, none⟩ 1 1 [.string key, .int .u64 i2, .nilIface] rfl rfl (by intro j u hj; exact cells_new _ _ _ _ (by simp) j u hj) (by intro u hu; simp at hu; rcases hu with rfl | rfl | rfl; all_goals rfl) (by decide) (by unfold maxLen; omega) (by omega) (by simp; omega) _ rfl ?_; intro x8 cap8 w8 hown8 hgrow8 hat8 hlt8; have q8 : w8.cell? ⟨rb, ro + 23, none⟩ = some (Value.slice (some ⟨gb, 0, none⟩) n cap0) := ((World.cell?_of_block (a := ⟨rb, ro + 23, none⟩) (hgrow8.block rb (by simp; omega) HRU7.out)).trans (by simp [go_sem, q23, hr7])); have z8 : w8.frozen? ⟨rb, ro + 23, none⟩ = false := ((World.frozen?_of_block (a := ⟨rb, ro + 23, none⟩) (hgrow8.block rb (by simp; omega) HRU7.out)).trans (by simp [go_sem, z23, hr7])); have HO8 := Lib.hid hown8; have HG8 := Lib.hid hgrow8; have HA8 := Lib.hid hat8; clear hown8 hgrow8 hat8 hlt8)
                | (refine step_append_lies _ rfl (.tmp 53) (.tmp 55) 113 rfl base 111 i0 _ 3 40 Tryz.underlying113 hi hz0 hz1 hz2 rfl (by decide) _ n xs rfl ((HO7.out.drew).alloc _) ⟨_, 0, none⟩ 1 1 [.string key, .int .u64 i2, .iface ty u2] rfl rfl (by intro j u hj; exact cells_new _ _ _ _ (by simp) j u hj) (by intro u hu; simp at hu; rcases hu with rfl | rfl | rfl; all_goals rfl) (by decide) (by unfold maxLen; omega) (by omega) (by simp; omega) _ rfl ?_; intro x8 cap8 w8 hown8 hgrow8 hat8 hlt8; have q8 : w8.cell? ⟨rb, ro + 23, none⟩ = some (Value.slice (some ⟨gb, 0, none⟩) n cap0) := ((World.cell?_of_block (a := ⟨rb, ro + 23, none⟩) (hgrow8.block rb (by simp; omega) HRU7.out)).trans (by simp [go_sem, q23, hr7])); have z8 : w8.frozen? ⟨rb, ro + 23, none⟩ = false := ((World.frozen?_of_block (a := ⟨rb, ro + 23, none⟩) (hgrow8.block rb (by simp; omega) HRU7.out)).trans (by simp [go_sem, z23, hr7])); have HO8 := Lib.hid hown8; have HG8 := Lib.hid hgrow8; have HA8 := Lib.hid hat8; clear hown8 hgrow8 hat8 hlt8))
            all_goals
              go_wp2
            all_goals
              have hT4 : Two rb u.ownBlock w w4 := ((((HT.out.below HBr.out).setOwn ⟨w.heap.size, 0, none⟩ (Nat.le_refl _) _).setOwn ⟨w.heap.size, 1, none⟩ (Nat.le_refl _) _).setOwn ⟨w.heap.size, 2, none⟩ (Nat.le_refl _) _).below HB4.out
              have hA4 : KeepsOn (Ap P rb w.heap.size (Value.slice (some ⟨gb, 0, none⟩) n cap0)) w2 w4 := KS.out.trans ((keeps_of_below HB4.out).on _)
              have hB4 : KeepsOn (Ap P rb w.heap.size (Value.slice (some ⟨gb, 0, none⟩) n cap0)) wr w4 := K4.out.mono (fun b hb => hb.2.2.1)
              have hV4 : VarBox w.heap.size w4 := ⟨⟨_, _, _, g3, g4, g5⟩, n3, n4, n5⟩
              have hT7 := hT4
              have hA7 := hA4
              have hB7 := hB4
              have hV7 := hV4
              have HF7 := HF
              have HX7 := HX
              have R7 := R4
              have HGU7 := HGU
              have HN7 := HN
              have hq7 : ∀ b, Ap P rb w.heap.size (Value.slice (some ⟨gb, 0, none⟩) n cap0) b → b < w4.heap.size → Ap P rb w.heap.size (Value.slice (some ⟨gb, 0, none⟩) n cap0) b := fun _ h _ => h
              obtain hAt : (Value.slice (some ⟨gb, 0, none⟩) n cap0).ownBlock = some x8 ∨ x8 = _ := HA8.out
              have hx8 : (Value.slice (some ⟨gb, 0, none⟩) n cap0).ownBlock = some x8 ∨ w4.heap.size ≤ x8 := hAt.imp id (fun h => by rw [h]; simp)
              have hG8 : World.grownBy _ w8 (Value.slice (some ⟨gb, 0, none⟩) n cap0).ownBlock := HG8.out
              have hKB : ∀ (B : Nat → Prop), (∀ b, B b → some b ≠ (Value.slice (some ⟨gb, 0, none⟩) n cap0).ownBlock) → KeepsOn B w4 w8 := fun B hB => ((KeepsOn.refl _ _).drew.alloc _).trans (keepsOn_of_grown hG8 hB)
              have hK8 : KeepsOn (Ap P rb w.heap.size (Value.slice (some ⟨gb, 0, none⟩) n cap0)) w4 (w8.setCell ⟨rb, ro + 23, none⟩ (.slice (some ⟨x8, 0, none⟩) (n + 1) cap8)) := (hKB _ (fun b hb => hb.2.2.2)).setCell (p := ⟨rb, ro + 23, none⟩) (fun b hb => hb.2.1) _
              have hQ8 : ∀ b, Ap P rb w.heap.size (Value.slice (some ⟨gb, 0, none⟩) n cap0) b → b < w4.heap.size → Ap P rb w.heap.size (.slice (some ⟨x8, 0, none⟩) (n + 1) cap8) b := apart_q hx8
              have hbx : some rb ≠ some x8 := fun e => by
                injection e with e
                rcases hx8 with h | h
                · exact HRU7.out (by rw [h, e])
                · omega
              have hgx : some w.heap.size ≠ some x8 := fun e => by
                injection e with e
                rcases hx8 with h | h
                · exact HGU7.out (by rw [h, e])
                · omega
              have hN8 : NewRow (Value.slice (some ⟨gb, 0, none⟩) n cap0) (.slice (some ⟨x8, 0, none⟩) (n + 1) cap8) w4 := hx8.imp (fun h => h.symm) (fun h => ⟨x8, rfl, h⟩)
              have hT8 : Two rb u.ownBlock w (w8.setCell ⟨rb, ro + 23, none⟩ (.slice (some ⟨x8, 0, none⟩) (n + 1) cap8)) := ((hT7.drew.alloc _).trans (Two.of_grown hG8) HN7.out).set _ _
              refine ⟨⟨r2, A2, len2, cap2, rc', f, SAttrs.snoc b key (valueOf none d), .slice (some ⟨x8, 0, none⟩) (n + 1) cap8, (n + 1), _, rfl, (HA2.out.1.turn hA7 (fun b h hl => hq7 b h (by omega))).turn hK8 hQ8, HA2.out.2, ((R7.out.drew.keep (w' := w8) (hKB (fun b => b = rb) (fun b hb => hb ▸ HRU7.out) rb rfl hr7)).back _), HRC.out, FrP.turn hK8 hQ8 f rc' 7 (FrP.turn hB7 (fun b h hl => hq7 b h (by omega)) f rc' 7 HF7.out), HFL.out, ownsRow_setCell_other HO8.out (fun e => hbx e.symm) _, RSX.snoc ((HR2.out.turn hA7 (fun b h hl => hq7 b h (by omega))).turn hK8 hQ8) b xs (RSX.turn hK8 hQ8 b xs (RSX.turn hB7 (fun b h hl => hq7 b h (by omega)) b xs HX7.out)), fun _ => H5.out, hbx, hgx, add_back HV.out HG.out, ?_, HRs.out.1, HRs.out.2.1, HRs.out.2.2.1, (hV7.keep (hKB (fun b => b = w.heap.size) (fun b hb => hb ▸ HGU7.out) _ rfl hV7.lt)).keep (Below.heap_setCell _ _ _ _ hrg2), hT8, (HN7.out : NewRow u (Value.slice (some ⟨gb, 0, none⟩) n cap0) w).trans hN8 hT7.size⟩, ?_⟩
              · rw [slen_snoc]; have := HRs.out.2.2.2; omega
              · simp only [lenOf]; have h1 := HL2.out; have h2 := HRs.out.2.2.2; have h3 := Hl.out; omega

end Go.Proofs.YtihhgnbgejjijaaGreatDoor.Va

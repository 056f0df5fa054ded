/- When package slog has two groups be equal (slices.EqualFunc). -/
import Derived.Test.YtcgdnjigocknbaaDoorSEqC
import Derived.Deep.LoopGhost
namespace Go.Proofs.YtcgdnjigocknbaaDoor.Va
set_option linter.unusedVariables false
set_option linter.unusedSimpArgs false
open Go Go.RowKit

mutual
def sSize : SVal → Nat
  | .group l => sSizeAll l + 1
  | _ => 1
def sSizeAll : SAttrs → Nat
  | .nil => 0
  | .cons _ v r => sSize v + sSizeAll r
end

theorem sAll_end {key key' : ByteArray} {v v' : SVal} {r r' : SAttrs} (h : (sAttrEqual key v key' v').2 = true ∨ (sAttrEqual key v key' v').1 = false) : sEqualAll (.cons key v r) (.cons key' v' r') = sAttrEqual key v key' v' := by
  unfold sAttrEqual at h ⊢
  rw [sEqualAll]
  split <;> rename_i hk
  · rfl
  · rw [if_neg hk] at h
    rw [if_pos h]
theorem sAll_on {key key' : ByteArray} {v v' : SVal} {r r' : SAttrs} (h1 : (sAttrEqual key v key' v').2 = false) (h2 : (sAttrEqual key v key' v').1 = true) : sEqualAll (.cons key v r) (.cons key' v' r') = sEqualAll r r' := by
  unfold sAttrEqual at h1 h2
  rw [sEqualAll]
  split at h1
  · rename_i hk
    rw [if_pos hk] at h2
    cases h2
  · rename_i hk
    rw [if_neg hk] at h2
    rw [if_neg hk, if_neg (by simp [h1, h2])]

theorem rsv_form {P : Nat → Prop} {w : World} {d : SVal} {x y : Value} (h : RSV P w d x y) : (∃ i, x = .int .u64 i) ∧ (y = .nilIface ∨ ∃ t v, y = .iface t v) := by
  cases d with
  | num k n => unfold RSV at h; exact ⟨⟨_, h.1⟩, .inr ⟨_, _, h.2.1⟩⟩
  | str s => unfold RSV at h; exact ⟨⟨_, h.1⟩, .inr ⟨_, _, h.2⟩⟩
  | time t => unfold RSV at h; exact ⟨⟨_, h.1⟩, .inr ⟨_, _, h.2⟩⟩
  | group l => unfold RSV at h; obtain ⟨A, len, cap, h1, h2, _⟩ := h; exact ⟨⟨_, h1⟩, .inr ⟨_, _, h2⟩⟩
  | any g => unfold RSV at h; exact ⟨⟨_, h.1⟩, shape_or h.2⟩
  | valuer n v c => unfold RSV at h; obtain ⟨vx, vy, h1, h2, _⟩ := h; exact ⟨⟨_, h1⟩, .inr ⟨_, _, h2⟩⟩
  | throws s c => unfold RSV at h; exact ⟨⟨_, h.1⟩, .inr ⟨_, _, h.2⟩⟩

set_option maxRecDepth 100000 in
set_option maxHeartbeats 400000 in
theorem eqFunc_ne (A A' : Option Addr) (len cap len' cap' : Nat) (h : len ≠ len') (fv : Value) (w : World) :
    Calls Tryd.prog 58 #[.slice A len cap, .slice A' len' cap', fv] w (EqEnd (false, false) w) := by
  have hne : ¬ (len : Int) = (len' : Int) := by omega
  go_enter Tryd.func58, Tryd.ntmps58
  go_wp2
  all_goals first
    | (exfalso; omega)
    | (go_ret; exact ⟨.inl ⟨rfl, rfl⟩, (by repeat' (first | with_reducible assumption | with_reducible exact Below.refl _ _ | with_reducible refine Below.setCell ?_ ?_ _ | with_reducible refine Below.alloc ?_ ?_ _ | with_reducible refine Below.drew ?_ | with_reducible refine below_drewN ?_ _ | omega | (simp; done) | (simp; omega)))⟩)

set_option maxRecDepth 100000 in
set_option maxHeartbeats 4000000 in
theorem eqFunc_any (l l' : SAttrs) {P P' : Nat → Prop} (hd : ∀ b, P b → ¬ P' b) (hq : sQuietAll l) (hq' : sQuietAll l') (A A' : Option Addr) (len cap cap' : Nat) (w : World) (hl : RSS P w l A len) (hl' : RSS P' w l' A' len) (hlen : len ≤ 140737488355328)
    (ih : ∀ d : SVal, sSize d ≤ sSizeAll l → SEqV d) :
    Calls Tryd.prog 58 #[.slice A len cap, .slice A' len cap', .func (.func 28) #[] #[]] w (EqEnd (sEqualAll l l') w) := by
  obtain ⟨hl0, hl1⟩ := hl
  obtain ⟨hl0', hl1'⟩ := hl'
  obtain ⟨Q, hQ⟩ : ∃ Q, Q = EqEnd (sEqualAll l l') w := ⟨_, rfl⟩
  rw [← hQ]
  have HQ := Lib.hid hQ
  clear hQ
  by_cases hz : len = 0
  · subst hz
    have : l = .nil := by cases l with | nil => rfl | cons => simp [SAttrs.len] at hl0
    subst this
    have he : sEqualAll .nil l' = (true, false) := by unfold sEqualAll; rfl
    rw [he] at HQ
    clear hl0 hl1 hl0' hl1' he ih hq hq' hd
    go_enter Tryd.func58, Tryd.ntmps58
    go_wp2
    go_loopg [17] 1 (fun n a wr => a = .int .i64 0 ∧ wr = w)
    case atStart => exact ⟨rfl, rfl⟩
    case round =>
      obtain ⟨rfl, rfl⟩ := hrel
      go_wp2
      rw [HQ.out]
      exact ⟨.inl ⟨rfl, rfl⟩, Below.refl _ _⟩
  · obtain ⟨b, o, rfl, hpb, hr⟩ := hl1 (by omega)
    obtain ⟨b', o', rfl, hpb', hr'⟩ := hl1' (by omega)
    have Hl0 := Lib.hid hl0
    have Hl0' := Lib.hid hl0'
    have Hih := Lib.hid ih
    clear hl1 hl1' hl0 hl0' ih
    go_enter Tryd.func58, Tryd.ntmps58
    go_wp2
    go_loopg [17] len (fun n a wr => ∃ (k : Nat) (rest rest' : SAttrs), a = .int .i64 k ∧ k + rest.len = len ∧ rest.len = rest'.len ∧ len - k ≤ n ∧ Hid (Q = EqEnd (sEqualAll rest rest') w) ∧ Hid (RSAs P w rest b (o + k * 3)) ∧ Hid (RSAs P' w rest' b' (o' + k * 3)) ∧ Hid (sSizeAll rest ≤ sSizeAll l ∧ sQuietAll rest ∧ sQuietAll rest') ∧ Hid (Below w.heap.size w wr))
    case atStart => exact ⟨0, l, l', rfl, by have := Hl0.out; omega, Hl0.out.symm.trans Hl0'.out, by omega, HQ.out, hr, hr', ⟨Nat.le_refl _, hq, hq'⟩, Below.refl _ _⟩
    case round =>
      obtain ⟨k, rest, rest', rfl, hk, hkk, hn, HQ2, hrs, hrs', hzq, hB⟩ := hrel
      clear HQ hr hr' hq hq'
      cases rest with
      | nil =>
        have hke : ¬ ((k : Int) < (len : Int)) := by simp [SAttrs.len] at hk; omega
        go_wp2
        rw [HQ2.out]
        have he : sEqualAll .nil rest' = (true, false) := by unfold sEqualAll; rfl
        rw [he]
        exact ⟨.inl ⟨rfl, rfl⟩, hB.out⟩
      | cons key v r =>
        cases rest' with
        | nil => simp [SAttrs.len] at hkk
        | cons key' v' r' =>
        have hlt : k < len := by simp only [SAttrs.len] at hk; omega
        have hK := keeps_of_below hB.out
        have h1 := hrs.out
        have h2 := hrs'.out
        unfold RSAs at h1 h2
        obtain ⟨k0, ⟨vx, vy, k1, k2, hv⟩, hr1⟩ := h1
        obtain ⟨k0', ⟨vx', vy', k1', k2', hv'⟩, hr1'⟩ := h2
        obtain ⟨hsz, hq, hq'⟩ := hzq.out
        simp only [sQuietAll] at hq hq'
        simp only [sSizeAll] at hsz
        have hbb : b < wr.heap.size := Nat.lt_of_lt_of_le (World.block_lt_of_cell? w _ k0) hB.out.size
        have hbb' : b' < wr.heap.size := Nat.lt_of_lt_of_le (World.block_lt_of_cell? w _ k0') hB.out.size
        have k0 := hK.cell k0
        have k1 := hK.cell k1
        have k2 := hK.cell k2
        have k0' := hK.cell k0'
        have k1' := hK.cell k1'
        have k2' := hK.cell k2'
        obtain ⟨⟨ix, rfl⟩, hy⟩ := rsv_form hv
        obtain ⟨⟨ix', rfl⟩, hy'⟩ := rsv_form hv'
        have cE := fun wx (hx : Keeps w wx) => attrS_val key key' v v' (Hih.out v (by omega)) hd hq.1 hq'.1 wx (.int .u64 ix) vy (.int .u64 ix') vy' (hv.keep hx) (hv'.keep hx)
        have HN := Lib.hid (And.intro hk (And.intro hkk (And.intro hn (And.intro hr1 (And.intro hr1' (And.intro hq.2 (And.intro hq'.2 hsz)))))))
        have q1 : b' < wr.heap.size + 1 := by omega
        have q2 : b' ≠ wr.heap.size := by omega
        clear hk hkk hn hrs hrs' hzq hv hv' hr1 hr1' hsz hq hq' hK
        have hlt' : (k : Int) < (len : Int) := by omega
        obtain ⟨R, hR⟩ : ∃ R, R = sAttrEqual key v key' v' := ⟨_, rfl⟩
        rw [← hR] at cE
        have HR := Lib.hid hR
        clear hR
        obtain ⟨r1, r2⟩ := R
        have hs1 : wr.heap.size ≠ b := by omega
        have hs2 : wr.heap.size ≠ b' := by omega
        cases r2 with
        | true =>
          have cF : ∀ wx, Keeps w wx → Calls Tryd.prog 28 #[.agg #[.string key, .int .u64 ix, vy], .agg #[.string key', .int .u64 ix', vy']] wx fun e w' => (∃ t v, e = .panicked [{ v := .iface t v, recovered := false }]) ∧ Below wx.heap.size wx w' := fun wx hx => (cE wx hx).mono fun e w' hh => by
            rcases hh with ⟨⟨hh, _⟩ | ⟨_, hh⟩, hb⟩
            · cases hh
            · exact ⟨hh, hb⟩
          have CF := Lib.hid cF
          clear cE cF
          rcases hy with rfl | ⟨ty, yy, rfl⟩ <;> rcases hy' with rfl | ⟨ty', yy', rfl⟩
          all_goals
           go_wp2_with (go_at_call 28; refine (CF.out _ (keeps_of_below (keeps_below hB.out (by repeat' (first | with_reducible assumption | with_reducible exact Below.refl _ _ | with_reducible refine Below.setCell ?_ ?_ _ | with_reducible refine Below.alloc ?_ ?_ _ | with_reducible refine Below.drew ?_ | with_reducible refine below_drewN ?_ _ | omega | (simp; done) | (simp; omega)))))).mono ?_; rintro e w1 ⟨⟨tx, xx, rfl⟩, hb1⟩; have hB1 := Lib.hid (keeps_below (keeps_below hB.out (show Below wr.heap.size wr _ from (by repeat' (first | with_reducible assumption | with_reducible exact Below.refl _ _ | with_reducible refine Below.setCell ?_ ?_ _ | with_reducible refine Below.alloc ?_ ?_ _ | with_reducible refine Below.drew ?_ | with_reducible refine below_drewN ?_ _ | omega | (simp; done) | (simp; omega))))) hb1))
           rw [HQ2.out, sAll_end (.inl (by rw [← HR.out])), ← HR.out]
           exact ⟨rfl, .inr ⟨rfl, _, _, rfl⟩, hB1.out⟩
        | false =>
          have cF : ∀ wx, Keeps w wx → Calls Tryd.prog 28 #[.agg #[.string key, .int .u64 ix, vy], .agg #[.string key', .int .u64 ix', vy']] wx fun e w' => e = .returned (.bool r1) ∧ Below wx.heap.size wx w' := fun wx hx => (cE wx hx).mono fun e w' hh => by
            rcases hh with ⟨⟨_, hh⟩ | ⟨hh, _⟩, hb⟩
            · exact ⟨hh, hb⟩
            · cases hh
          have CF := Lib.hid cF
          clear cE cF
          cases r1 with
          | false =>
            rcases hy with rfl | ⟨ty, yy, rfl⟩ <;> rcases hy' with rfl | ⟨ty', yy', rfl⟩
            all_goals
             go_wp2_with (go_at_call 28; refine (CF.out _ (keeps_of_below (keeps_below hB.out (by repeat' (first | with_reducible assumption | with_reducible exact Below.refl _ _ | with_reducible refine Below.setCell ?_ ?_ _ | with_reducible refine Below.alloc ?_ ?_ _ | with_reducible refine Below.drew ?_ | with_reducible refine below_drewN ?_ _ | omega | (simp; done) | (simp; omega)))))).mono ?_; rintro e w1 ⟨rfl, hb1⟩; have hB1 := Lib.hid (keeps_below (keeps_below hB.out (show Below wr.heap.size wr _ from (by repeat' (first | with_reducible assumption | with_reducible exact Below.refl _ _ | with_reducible refine Below.setCell ?_ ?_ _ | with_reducible refine Below.alloc ?_ ?_ _ | with_reducible refine Below.drew ?_ | with_reducible refine below_drewN ?_ _ | omega | (simp; done) | (simp; omega))))) hb1))
             rw [HQ2.out, sAll_end (.inr (by rw [← HR.out])), ← HR.out]
             exact ⟨.inl ⟨rfl, rfl⟩, hB1.out⟩
          | true =>
            rcases hy with rfl | ⟨ty, yy, rfl⟩ <;> rcases hy' with rfl | ⟨ty', yy', rfl⟩
            all_goals
             go_wp2_with (go_at_call 28; refine (CF.out _ (keeps_of_below (keeps_below hB.out (by repeat' (first | with_reducible assumption | with_reducible exact Below.refl _ _ | with_reducible refine Below.setCell ?_ ?_ _ | with_reducible refine Below.alloc ?_ ?_ _ | with_reducible refine Below.drew ?_ | with_reducible refine below_drewN ?_ _ | omega | (simp; done) | (simp; omega)))))).mono ?_; rintro e w1 ⟨rfl, hb1⟩; have hB1 := Lib.hid (keeps_below (keeps_below hB.out (show Below wr.heap.size wr _ from (by repeat' (first | with_reducible assumption | with_reducible exact Below.refl _ _ | with_reducible refine Below.setCell ?_ ?_ _ | with_reducible refine Below.alloc ?_ ?_ _ | with_reducible refine Below.drew ?_ | with_reducible refine below_drewN ?_ _ | omega | (simp; done) | (simp; omega))))) hb1))
             obtain ⟨hk, hkk, hn, hr1, hr1', hq, hq', hsz⟩ := HN.out
             simp only [SAttrs.len] at hk hkk
             go_roundg (len - (k + 1))
             case measure => omega
             case rel => exact ⟨k + 1, r, r', by push_cast; rfl, by omega, by omega, Nat.le_refl _, HQ2.out.trans (by rw [sAll_on (by rw [← HR.out]) (by rw [← HR.out])]), (show RSAs P w r b _ from by rw [show o + (k + 1) * 3 = o + k * 3 + 3 by omega]; exact hr1), (show RSAs P' w r' b' _ from by rw [show o' + (k + 1) * 3 = o' + k * 3 + 3 by omega]; exact hr1'), ⟨by omega, hq, hq'⟩, hB1.out⟩

end Go.Proofs.YtcgdnjigocknbaaDoor.Va

/- When package spec has two values be equal (spec.VaEqual, VaAttrEqual, vaAnyEqual): the walks. -/
import Derived.Test.YtcgdnjigocknbaaDoorTidyC
import Derived.Deep.QuietTactic
import Derived.BigQuiet
import Derived.Laws.Externs
namespace Go.Proofs.YtcgdnjigocknbaaDoor.Va
set_option linter.unusedVariables false
set_option linter.unusedSimpArgs false
open Go Go.RowKit

/-- Equality of floats, by their bits. -/
def feq (n m : Int) : Bool := Go.Op.floatEq .f64 n.toNat m.toNat

/-- spec.vaAnyEqual. -/
def anyEqual (n : Int) (s : ByteArray) (t : GTime) (l : GAttrs) (n' : Int) (s' : ByteArray) (t' : GTime) (l' : GAttrs) : Bool × Bool :=
  if n ≠ n' then (false, false)
  else if n = 3 then (false, true)
  else if n = 13 then (false, false)
  else if n = 0 ∨ n = 12 ∨ n = 14 then (true, false)
  else if n = 6 ∨ n = 7 ∨ n = 8 then (decide (t.sec = t'.sec), false)
  else if n = 15 then (decide (s = s') && decide (l.head = l'.head), false)
  else (decide (s = s'), false)

mutual
/-- spec.VaEqual. -/
def vaEqual : GVal → GVal → Bool × Bool
  | .mk k n s t l, .mk k' n' s' t' l' =>
    if k ≠ k' then (false, false)
    else if k = 3 then (feq n n', false)
    else if k = 5 then (decide (s = s'), false)
    else if k = 6 then (decide (t.sec = t'.sec) && decide (t.nsec = t'.nsec), false)
    else if k = 8 then if l.len ≠ l'.len then (false, false) else vaEqualAll l l'
    else if k = 0 then anyEqual n s t l n' s' t' l'
    else if k = 9 then if s = ByteArray.empty ∧ s' = ByteArray.empty then (false, true) else (decide (s ≠ ByteArray.empty) && decide (s = s'), false)
    else (decide (n = n'), false)
/-- The loop of spec.VaEqual, over lists of one length. -/
def vaEqualAll : GAttrs → GAttrs → Bool × Bool
  | .cons key v r, .cons key' v' r' =>
    if key ≠ key' then (false, false)
    else if (vaEqual v v').2 = true ∨ (vaEqual v v').1 = false then vaEqual v v'
    else vaEqualAll r r'
  | _, _ => (true, false)
end

theorem head_same (l : GAttrs) (w : World) (A : Option Addr) (len cap : Nat) (h : RS w l A len) :
    Calls Tryd.prog 20 #[.slice A len cap] w fun e w' => e = .returned (.string l.head) ∧ w' = w := by
  obtain ⟨h0, h1⟩ := h
  cases l with
  | nil =>
    have : len = 0 := h0
    subst this
    clear h0 h1
    go_enter Tryd.func20, Tryd.ntmps20
    go_wp2
    go_ret
    exact ⟨rfl, rfl⟩
  | cons k v r =>
    have hp : 0 < len := by simp only [GAttrs.len] at h0; omega
    obtain ⟨b, o, rfl, hr⟩ := h1 hp
    unfold RAs at hr
    have hk := hr.1
    have hne : ¬ (len : Int) = 0 := by omega
    clear h1 hr h0
    go_enter Tryd.func20, Tryd.ntmps20
    go_wp2
    go_ret
    exact ⟨rfl, rfl⟩

theorem head_quiet (l : GAttrs) (w : World) (A : Option Addr) (len cap n : Nat) (h : RS w l A len) :
    Calls Tryd.prog 20 #[.slice A len cap] (w.drewN n) fun e w'' => e = .returned (.string l.head) ∧ ∃ m, w'' = w.drewN m :=
  Calls.quiet_of_same (head_same l _ A len cap (h.keep (keeps_of_below (below_drewN (Below.refl _ _) n))))

theorem ret_two {a b : Bool} {r : Bool × Bool} (h : r = (a, b)) : Ending.returned (.tuple #[.bool a, .bool b]) = .returned (.tuple #[.bool r.1, .bool r.2]) := by rw [h]

set_option maxRecDepth 100000 in
set_option maxHeartbeats 400000 in
/-- spec.vaAnyEqual, of other sorts than Both. -/
theorem anyEq_plain (d d' : GVal) (w : World) (A A' : Option Addr) (len cap len' cap' : Nat) (h15 : ¬ (d.n = 15 ∧ d'.n = 15)) :
    Calls Tryd.prog 19 #[vVal d A len cap, vVal d' A' len' cap'] w fun e w' =>
      e = .returned (.tuple #[.bool (anyEqual d.n d.s d.t d.l d'.n d'.s d'.t d'.l).1, .bool (anyEqual d.n d.s d.t d.l d'.n d'.s d'.t d'.l).2]) ∧ Below w.heap.size w w' := by
  obtain ⟨k, n, s, t, l⟩ := d
  obtain ⟨k', n', s', t', l'⟩ := d'
  simp only [vVal, kind_mk, n_mk, s_mk, t_mk, l_mk] at h15 ⊢
  by_cases hn : n = n'
  · subst hn
    have h15 : ¬ n = 15 := fun h => h15 ⟨h, h⟩
    go_enter Tryd.func19, Tryd.ntmps19
    go_wp2
    all_goals
      go_ret2
      refine ⟨ret_two ?_, (by repeat' (first | with_reducible assumption | with_reducible exact Below.refl _ _ | with_reducible refine Below.setCell ?_ ?_ _ | with_reducible refine Below.alloc ?_ ?_ _ | with_reducible refine Below.drew ?_ | with_reducible refine below_drewN ?_ _ | omega | (simp; done) | (simp; omega)))⟩
      go_tidy
      simp only [beq_iff_eq, beq_eq_false_iff_ne, ne_eq] at *
      simp_all [anyEqual, toList_beq, int_beq]
  · have e : anyEqual n s t l n' s' t' l' = (false, false) := by unfold anyEqual; rw [if_pos hn]
    rw [e]
    clear e h15
    go_enter Tryd.func19, Tryd.ntmps19
    go_wp2
    go_ret2
    exact ⟨rfl, (by repeat' (first | with_reducible assumption | with_reducible exact Below.refl _ _ | with_reducible refine Below.setCell ?_ ?_ _ | with_reducible refine Below.alloc ?_ ?_ _ | with_reducible refine Below.drew ?_ | with_reducible refine below_drewN ?_ _ | omega | (simp; done) | (simp; omega)))⟩

set_option maxRecDepth 100000 in
set_option maxHeartbeats 400000 in
/-- spec.vaAnyEqual, of the sort Both. -/
theorem anyEq_both (k k' : Int) (s s' : ByteArray) (t t' : GTime) (l l' : GAttrs) (w : World) (A A' : Option Addr) (len cap len' cap' : Nat) (hl : RS w l A len) (hl' : RS w l' A' len') :
    Calls Tryd.prog 19 #[vVal (.mk k 15 s t l) A len cap, vVal (.mk k' 15 s' t' l') A' len' cap'] w fun e w' =>
      e = .returned (.tuple #[.bool (anyEqual 15 s t l 15 s' t' l').1, .bool (anyEqual 15 s t l 15 s' t' l').2]) ∧ Below w.heap.size w w' := by
  simp only [vVal, kind_mk, n_mk, s_mk, t_mk, l_mk]
  have Hl := Lib.hid hl
  have Hl' := Lib.hid hl'
  clear hl hl'
  have he : anyEqual 15 s t l 15 s' t' l' = (decide (s = s') && decide (l.head = l'.head), false) := by simp [anyEqual]
  rw [he]
  clear he
  by_cases hs : s = s'
  · subst hs
    go_enter Tryd.func19, Tryd.ntmps19
    go_wp2
    go_quiet (first
      | (go_at_call 20; with_reducible refine head_quiet l _ A len cap _ ?_; exact Hl.out.keep (keeps_of_below (by repeat' (first | with_reducible assumption | with_reducible exact Below.refl _ _ | with_reducible refine Below.setCell ?_ ?_ _ | with_reducible refine Below.alloc ?_ ?_ _ | with_reducible refine Below.drew ?_ | with_reducible refine below_drewN ?_ _ | omega | (simp; done) | (simp; omega)))))
      | (go_at_call 20; with_reducible refine head_quiet l' _ A' len' cap' _ ?_; exact Hl'.out.keep (keeps_of_below (by repeat' (first | with_reducible assumption | with_reducible exact Below.refl _ _ | with_reducible refine Below.setCell ?_ ?_ _ | with_reducible refine Below.alloc ?_ ?_ _ | with_reducible refine Below.drew ?_ | with_reducible refine below_drewN ?_ _ | omega | (simp; done) | (simp; omega))))))
    go_wp2
    go_ret2
    refine ⟨?_, (by repeat' (first | with_reducible assumption | with_reducible exact Below.refl _ _ | with_reducible refine Below.setCell ?_ ?_ _ | with_reducible refine Below.alloc ?_ ?_ _ | with_reducible refine Below.drew ?_ | with_reducible refine below_drewN ?_ _ | omega | (simp; done) | (simp; omega)))⟩
    try go_tidy
    all_goals simp [toList_beq]
  · have hb : (s.toList == s'.toList) = false := by rw [toList_beq]; simp [hs]
    go_enter Tryd.func19, Tryd.ntmps19
    go_wp2
    go_quiet (fail)
    go_wp2
    go_ret2
    refine ⟨?_, (by repeat' (first | with_reducible assumption | with_reducible exact Below.refl _ _ | with_reducible refine Below.setCell ?_ ?_ _ | with_reducible refine Below.alloc ?_ ?_ _ | with_reducible refine Below.drew ?_ | with_reducible refine below_drewN ?_ _ | omega | (simp; done) | (simp; omega)))⟩
    try go_tidy
    all_goals simp [hs]

/-- spec.vaAnyEqual. -/
theorem anyEq_any (d d' : GVal) (w : World) (A A' : Option Addr) (len cap len' cap' : Nat) (hl : RS w d.l A len) (hl' : RS w d'.l A' len') :
    Calls Tryd.prog 19 #[vVal d A len cap, vVal d' A' len' cap'] w fun e w' =>
      e = .returned (.tuple #[.bool (anyEqual d.n d.s d.t d.l d'.n d'.s d'.t d'.l).1, .bool (anyEqual d.n d.s d.t d.l d'.n d'.s d'.t d'.l).2]) ∧ Below w.heap.size w w' := by
  by_cases h : d.n = 15 ∧ d'.n = 15
  · obtain ⟨k, n, s, t, l⟩ := d
    obtain ⟨k', n', s', t', l'⟩ := d'
    simp only [n_mk] at h
    obtain ⟨rfl, rfl⟩ := h
    exact anyEq_both k k' s s' t t' l l' w A A' len cap len' cap' hl hl'
  · exact anyEq_plain d d' w A A' len cap len' cap' h

end Go.Proofs.YtcgdnjigocknbaaDoor.Va

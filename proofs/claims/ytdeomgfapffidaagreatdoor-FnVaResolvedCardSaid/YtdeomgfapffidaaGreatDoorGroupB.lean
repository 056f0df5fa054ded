/- Groups of package slog (countEmptyGroups, GroupValue): the walks. -/
import Derived.Test.YtdeomgfapffidaaGreatDoorGroup
namespace Go.Proofs.YtdeomgfapffidaaGreatDoor.Va
set_option linter.unusedVariables false
set_option linter.unusedSimpArgs false
open Go Go.RowKit

/-- One round. -/
def CountRnd (P : Nat → Prop) (w : World) (l : SAttrs) (b o : Nat) (slot3 slot8 : Value) (wr : World) : Prop :=
  ∃ (k n : Nat) (rest : SAttrs), k + rest.len = l.len ∧ slot8 = .int .i64 k ∧ slot3 = .int .i64 n ∧ n + rest.empties = l.empties ∧ n ≤ k ∧ RSAs P w rest b (o + k * 3) ∧ Below w.heap.size w wr

set_option maxRecDepth 100000 in
set_option maxHeartbeats 400000 in
/-- slog.countEmptyGroups. -/
theorem count_any {P : Nat → Prop} (l : SAttrs) (w : World) (A : Option Addr) (len cap : Nat) (hl : RSS P w l A len) (hlen : len ≤ 140737488355328) :
    Calls Tryz.prog 111 #[.slice A len cap] w fun e w' => e = .returned (.int .i64 l.empties) ∧ Below w.heap.size w w' := by
  obtain ⟨hl0, hl1⟩ := hl
  by_cases hz : len = 0
  · subst hz
    have : l = .nil := by cases l with | nil => rfl | cons => simp [SAttrs.len] at hl0
    subst this
    clear hl0 hl1
    go_enter Tryz.func111, Tryz.ntmps111
    go_wp2
    go_loopw [3, 8] (fun a c wr => a = .int .i64 0 ∧ c = .int .i64 0 ∧ wr = w) (fun _ _ _ => 0)
    case atStart => exact ⟨rfl, rfl, rfl⟩
    case round =>
      obtain ⟨rfl, rfl, rfl⟩ := hrel
      go_wp2
      go_ret
      exact ⟨rfl, Below.refl _ _⟩
  · obtain ⟨b, o, rfl, hp, hr⟩ := hl1 (by omega)
    clear hl1 hp
    have Hl0 := Lib.hid hl0
    clear hl0
    go_enter Tryz.func111, Tryz.ntmps111
    go_wp2
    go_loopw [3, 8] (fun a c wr => CountRnd P w l b o a c wr) (fun _ c _ => len - (intOf c).toNat)
    case atStart => exact ⟨0, 0, l, by omega, rfl, rfl, by omega, Nat.le_refl _, hr, Below.refl _ _⟩
    case round =>
      obtain ⟨k, n, rest, hk, rfl, rfl, hn, hnk, hrs, hB⟩ := hrel
      have hk' := Hl0.out
      have hsize := hB.size
      cases rest with
      | nil =>
        have hke : ¬ ((k : Int) < (len : Int)) := by simp [SAttrs.len] at hk; omega
        have hn' : n = l.empties := by simpa [SAttrs.empties] using hn
        have Hn := Lib.hid hn'
        clear hk hk' hn hn' hrs
        go_wp2
        go_ret
        exact ⟨ret_int (by rw [Hn.out]), hB⟩
      | cons key v r =>
        have hlt : k < len := by simp only [SAttrs.len] at hk; omega
        have hkk : k + 1 + r.len = l.len := by simp only [SAttrs.len] at hk; omega
        unfold RSAs at hrs
        obtain ⟨hkey, ⟨vx, vy, c1, c2, hv⟩, hr'⟩ := hrs
        have Hr := Lib.hid hr'
        have hK := keeps_of_below hB
        have hkey := hK.cell hkey
        have c1 := hK.cell c1
        have c2 := hK.cell c2
        have HV := Lib.hid (hv.keep hK)
        have hvn := rsv_num hv
        obtain ⟨i, rfl⟩ := hvn
        have hva := rsv_any hv
        have Hn := Lib.hid (show n + ((if v.isEmptyGroup then 1 else 0) + r.empties) = l.empties from hn)
        clear hr' hr hv hk hk' hn hK
        rcases hva with rfl | ⟨ty, u, rfl⟩
        all_goals
          by_cases he : v.isEmptyGroup = true
          · go_wp2_with (go_at_call 106; refine (emptyGroup_any v _ _ _ (HV.out.keep (keeps_of_below (by repeat' (first | with_reducible assumption | with_reducible exact Below.refl _ _ | with_reducible refine Below.setCell ?_ ?_ _ | with_reducible refine Below.alloc ?_ ?_ _ | with_reducible refine Below.drew ?_ | with_reducible refine below_drewN ?_ _ | omega | (simp; done) | (simp; omega)))))).mono ?_; rintro e w2 ⟨rfl, hb2⟩; have hB2 := keeps_below (show Below w.heap.size w _ from (by repeat' (first | with_reducible assumption | with_reducible exact Below.refl _ _ | with_reducible refine Below.setCell ?_ ?_ _ | with_reducible refine Below.alloc ?_ ?_ _ | with_reducible refine Below.drew ?_ | with_reducible refine below_drewN ?_ _ | omega | (simp; done) | (simp; omega)))) hb2)
            refine ⟨⟨k + 1, n + 1, r, hkk, by push_cast; rfl, by push_cast; rfl, ?_, by omega, ?_, hB2⟩, ?_⟩
            · have := Hn.out; rw [if_pos he] at this; omega
            · have := Hr.out
              rwa [show o + (k + 1) * 3 = o + k * 3 + 3 by omega]
            · simp only [intOf]; omega
          · have he : v.isEmptyGroup = false := by simpa using he
            go_wp2_with (go_at_call 106; refine (emptyGroup_any v _ _ _ (HV.out.keep (keeps_of_below (by repeat' (first | with_reducible assumption | with_reducible exact Below.refl _ _ | with_reducible refine Below.setCell ?_ ?_ _ | with_reducible refine Below.alloc ?_ ?_ _ | with_reducible refine Below.drew ?_ | with_reducible refine below_drewN ?_ _ | omega | (simp; done) | (simp; omega)))))).mono ?_; rintro e w2 ⟨rfl, hb2⟩; have hB2 := keeps_below (show Below w.heap.size w _ from (by repeat' (first | with_reducible assumption | with_reducible exact Below.refl _ _ | with_reducible refine Below.setCell ?_ ?_ _ | with_reducible refine Below.alloc ?_ ?_ _ | with_reducible refine Below.drew ?_ | with_reducible refine below_drewN ?_ _ | omega | (simp; done) | (simp; omega)))) hb2)
            refine ⟨⟨k + 1, n, r, hkk, by push_cast; rfl, rfl, ?_, by omega, ?_, hB2⟩, ?_⟩
            · have := Hn.out; rw [if_neg (by rw [he]; decide)] at this; omega
            · have := Hr.out
              rwa [show o + (k + 1) * 3 = o + k * 3 + 3 by omega]
            · simp only [intOf]; omega

end Go.Proofs.YtdeomgfapffidaaGreatDoor.Va

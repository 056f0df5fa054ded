/- spec.RcWhole: the walk. -/
import Derived.Test.YtihhgnbgejjijaaGreatDoorArgsP
namespace Go.Proofs.YtihhgnbgejjijaaGreatDoor.Va
set_option linter.unusedVariables false
set_option linter.unusedSimpArgs false
open Go Go.RowKit

/-- One round. -/
def WhRnd (w : World) (l : List GArg) (b o : Nat) (s5 s10 : Value) (wr : World) : Prop :=
  ∃ (k : Nat) (rest : List GArg) (t : Bool), k + rest.length = l.length ∧ s10 = .int .i64 k ∧ s5 = .bool t ∧ waits false l = waits t rest ∧ RArgs w rest b (o + k * 9) ∧ Below w.heap.size w wr

set_option maxRecDepth 100000 in
set_option maxHeartbeats 1000000 in
/-- spec.RcWhole. -/
theorem rcWhole_any (l : List GArg) (w : World) (A : Option Addr) (len cap : Nat) (hl : RArgS w l A len) (hlen : len ≤ 140737488355328) :
    Calls Tryz.prog 21 #[.slice A len cap] w (BoolEnd (!waits false l) w) := by
  obtain ⟨hl0, hl1⟩ := hl
  have hst : ∃ b o, (0 < len → A = some ⟨b, o, none⟩) ∧ RArgs w l b o := by
    by_cases hz : 0 < len
    · obtain ⟨b, o, e, hr⟩ := hl1 hz
      exact ⟨b, o, fun _ => e, hr⟩
    · have : l = [] := List.length_eq_zero_iff.1 (by omega)
      subst this
      exact ⟨0, 0, fun h => absurd h hz, trivial⟩
  obtain ⟨b, o, hA, hr⟩ := hst
  have HA := Lib.hid hA
  have HR0 := Lib.hid hr
  have Hl0 := Lib.hid hl0
  obtain ⟨Q, hQ⟩ : ∃ Q : Ending → World → Prop, Q = BoolEnd (!waits false l) w := ⟨_, rfl⟩
  rw [← hQ]
  have HQ := Lib.hid hQ
  clear hQ hl0 hl1 hA hr
  go_enter Tryz.func21, Tryz.ntmps21
  go_wp2
  go_loopw [3, 8] (fun x y wr => WhRnd w l b o x y wr) (fun _ y _ => len - (intOf y).toNat)
  case atStart => exact ⟨0, l, false, by omega, rfl, rfl, rfl, by simpa using HR0.out, Below.refl _ _⟩
  case round =>
    clear HR0
    obtain ⟨k, rest, t, hk, rfl, rfl, hval, hrs, hB⟩ := hrel
    have hk' := Hl0.out
    have Hval := Lib.hid hval
    clear hval
    cases rest with
    | nil =>
      have hke : ¬ ((k : Int) < (len : Int)) := by simp at hk; omega
      clear hk hk' hrs
      cases t
      all_goals
        go_wp2
        rw [HQ.out]
        exact ⟨by rw [Hval.out]; rfl, hB⟩
    | cons a r =>
      have hlt : (k : Int) < (len : Int) := by simp only [List.length_cons] at hk; omega
      have hk0 : (0 : Int) ≤ (k : Int) := by omega
      have hkk : k + 1 + r.length = l.length := by simp only [List.length_cons] at hk; omega
      have hA := HA.out (by omega)
      subst hA
      obtain ⟨what, key, vk, vn, vs, vt, vl⟩ := a
      obtain ⟨hwhat, hkey, hv, hr'⟩ := hrs
      have HRr := Lib.hid hr'
      have hK := keeps_of_below hB
      have hwhat := hK.cell hwhat
      have hkey := hK.cell hkey
      have hv := hv.keep hK
      unfold RVal at hv
      obtain ⟨c0, c1, c2, c3, c4, c5, Av, lenv, capv, c6, hlenv, hAv⟩ := hv
      have hbb : b < wr.heap.size := World.block_lt_of_cell? wr _ hwhat
      have HB := Lib.hid hB
      have hsz := hB.size
      simp only at hwhat hkey
      clear hk hk' hr' hK hlenv hAv hB
      have hend : RArgs w r b (o + (k + 1) * 9) := by have := HRr.out; rwa [show o + k * 9 + 9 = o + (k + 1) * 9 by omega] at this
      have HE := Lib.hid hend
      clear hend
      have hv1 : waits false l = waits (!t && decide (what = 1) && decide (vk = 5)) r := Hval.out
      have HV := Lib.hid hv1
      clear hv1 Hval
      cases t with
      | true =>
        go_wp2
        exact ⟨⟨k + 1, r, false, hkk, by push_cast; rfl, rfl, by rw [HV.out]; rfl, HE.out, HB.out.alloc (by omega) _⟩, by simp only [intOf]; omega⟩
      | false =>
        by_cases h1 : what = 1
        · subst h1
          by_cases h5 : vk = 5
          · subst h5
            go_wp2
            exact ⟨⟨k + 1, r, true, hkk, by push_cast; rfl, rfl, by rw [HV.out]; rfl, HE.out, HB.out.alloc (by omega) _⟩, by simp only [intOf]; omega⟩
          · have h5' : (vk == 5) = false := by simp [h5]
            have H5 := Lib.hid h5
            clear h5
            go_wp2
            exact ⟨⟨k + 1, r, false, hkk, by push_cast; rfl, rfl, by rw [HV.out]; simp [H5.out], HE.out, HB.out.alloc (by omega) _⟩, by simp only [intOf]; omega⟩
        · have h1' : (what == 1) = false := by simp [h1]
          have H1 := Lib.hid h1
          clear h1
          go_wp2
          exact ⟨⟨k + 1, r, false, hkk, by push_cast; rfl, rfl, by rw [HV.out]; simp [H1.out], HE.out, HB.out.alloc (by omega) _⟩, by simp only [intOf]; omega⟩

end Go.Proofs.YtihhgnbgejjijaaGreatDoor.Va

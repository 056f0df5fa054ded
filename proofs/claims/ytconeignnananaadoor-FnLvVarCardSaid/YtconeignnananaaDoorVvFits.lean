/- laws.zzFits5, zzFits6: the walks. -/
import Derived.Test.YtconeignnananaaDoorVvMem
import Derived.BigQuiet
namespace Go.Proofs.YtconeignnananaaDoor.Lv
open Go Go.Lib Go.RowKit

set_option maxRecDepth 100000 in
set_option maxHeartbeats 400000 in
/-- laws.zzFits6. -/
theorem fits6_any (act level : Int) (text : ByteArray) (w : World) (h : text.size ≤ 140737488355328) : Calls Tryd.prog 32 #[.agg #[.int .i64 act, .int .i64 level, .string text]] w fun e w' => e = .returned (.bool (decide ((text.size : Int) ≤ 2147483647))) ∧ Below w.heap.size w w' := by
  by_cases h1 : (text.size : Int) > 2147483647
  · have hd : decide ((text.size : Int) ≤ 2147483647) = false := decide_eq_false (by omega)
    rw [hd]
    clear hd
    go_enter Tryd.func32, Tryd.ntmps32
    go_wp2
    go_ret
    exact ⟨rfl, (by repeat' (first | with_reducible assumption | with_reducible exact Below.refl _ _ | with_reducible refine Below.setCell ?_ ?_ _ | with_reducible refine Below.alloc ?_ ?_ _ | with_reducible refine Below.drew ?_ | with_reducible refine below_drewN ?_ _ | omega | (simp; done) | (simp; omega)))⟩
  · have hd : decide ((text.size : Int) ≤ 2147483647) = true := decide_eq_true (by omega)
    rw [hd]
    clear hd
    go_enter Tryd.func32, Tryd.ntmps32
    go_wp2
    go_ret
    exact ⟨rfl, (by repeat' (first | with_reducible assumption | with_reducible exact Below.refl _ _ | with_reducible refine Below.setCell ?_ ?_ _ | with_reducible refine Below.alloc ?_ ?_ _ | with_reducible refine Below.drew ?_ | with_reducible refine below_drewN ?_ _ | omega | (simp; done) | (simp; omega)))⟩

def vFits (l : List GVs) : Bool := l.all fun s => decide ((s.text.size : Int) ≤ 2147483647)
/-- One round. -/
def VfRnd (w : World) (l : List GVs) (b o : Nat) (s10 : Value) (wr : World) : Prop :=
  ∃ (k : Nat) (rest : List GVs), k + rest.length = l.length ∧ s10 = .int .i64 k ∧ vFits l = vFits rest ∧ RVss w rest b (o + k * 3) ∧ vsWf rest ∧ Below w.heap.size w wr

set_option maxRecDepth 100000 in
set_option maxHeartbeats 1000000 in
/-- laws.zzFits5. -/
theorem fits5_any (l : List GVs) (w : World) (A : Option Addr) (len cap : Nat) (hl : RVsS w l A len) (hw : vsWf l) (h1 : (len : Int) ≤ 2147483647) : Calls Tryd.prog 20 #[.slice A len cap] w fun e w' => e = .returned (.bool (vFits l)) ∧ Below w.heap.size w w' := by
  obtain ⟨hl0, hl1⟩ := hl
  obtain ⟨Q, hQ⟩ : ∃ Q : Ending → World → Prop, Q = fun e w' => e = .returned (.bool (vFits l)) ∧ Below w.heap.size w w' := ⟨_, rfl⟩
  rw [← hQ]
  have HQ := Lib.hid hQ
  have Hl0 := Lib.hid hl0
  have hst : ∃ b o, (0 < len → A = some ⟨b, o, none⟩) ∧ RVss w l b o := by
    by_cases hz : 0 < len
    · obtain ⟨b, o, e, hr⟩ := hl1 hz
      exact ⟨b, o, fun _ => e, hr⟩
    · have : l = [] := List.length_eq_zero_iff.1 (by omega)
      subst this
      exact ⟨0, 0, fun h => absurd h hz, trivial⟩
  obtain ⟨b, o, hA, hs⟩ := hst
  have HA := Lib.hid hA
  have HS := Lib.hid (And.intro hs hw)
  have hle : ¬ ((len : Int) > 2147483647) := by omega
  clear hQ hl0 hl1 hA hs hw
  go_enter Tryd.func20, Tryd.ntmps20
  go_wp2
  go_loopw [10] (fun x wr => VfRnd w l b o x wr) (fun x _ => len - (intOf x).toNat)
  case atStart => exact ⟨0, l, by omega, rfl, rfl, by simpa using HS.out.1, HS.out.2, Below.refl _ _⟩
  case round =>
    clear HS
    obtain ⟨k, rest, hk, rfl, hval, hrs, hw, hB⟩ := hrel
    have hk' := Hl0.out
    have Hval := Lib.hid hval
    have hsz := hB.size
    have HB := Lib.hid hB
    cases rest with
    | nil =>
      have hke : ¬ ((k : Int) < (len : Int)) := by simp at hk; omega
      clear hk hk' hrs hval hB hw
      go_wp2
      rw [HQ.out]
      exact ⟨by rw [Hval.out]; rfl, HB.out⟩
    | cons s r =>
      have hlt : (k : Int) < (len : Int) := by simp only [List.length_cons] at hk; omega
      have hk0 : (0 : Int) ≤ (k : Int) := by omega
      have hkk : k + 1 + r.length = l.length := by simp only [List.length_cons] at hk; omega
      have hA := HA.out (by omega)
      subst hA
      obtain ⟨act, level, text⟩ := s
      obtain ⟨h0, h1', h2, hr⟩ := hrs
      obtain ⟨⟨_, _, ht⟩, hwr⟩ := hw
      have hbk : b < w.heap.size := World.block_lt_of_cell? w _ h0
      simp only at h0 h1' h2 ht
      have h0 := (hB.cell (by exact hbk)).trans h0
      have h1' := (hB.cell (by exact hbk)).trans h1'
      have h2 := (hB.cell (by exact hbk)).trans h2
      have HR := Lib.hid (And.intro hr hwr)
      have hbb : b < wr.heap.size := by omega
      have CF := Lib.hid (fun wx => fits6_any act level text wx ht)
      have HV := Lib.hid (show vFits l = (decide ((text.size : Int) ≤ 2147483647) && vFits r) from hval)
      clear hk hk' hr hval hB hwr Hval
      obtain ⟨D, hD⟩ : ∃ D, D = decide ((text.size : Int) ≤ 2147483647) := ⟨_, rfl⟩
      rw [← hD] at CF HV
      clear hD
      cases D with
      | true =>
        go_wp2_with (go_at_call 32; (with_reducible refine (CF.out _).mono ?_); rintro e w2 ⟨rfl, hb2⟩; have hB2 := hb2)
        refine ⟨⟨k + 1, r, hkk, by push_cast; rfl, by rw [HV.out]; rfl, by have := HR.out.1; rwa [show o + k * 3 + 3 = o + (k + 1) * 3 by omega] at this, HR.out.2, HB.out.trans ((((Below.refl _ _).alloc (Nat.le_refl _) _).trans (hB2.mono (by simp))).mono (by omega))⟩, ?_⟩
        simp only [intOf]; omega
      | false =>
        go_wp2_with (go_at_call 32; (with_reducible refine (CF.out _).mono ?_); rintro e w2 ⟨rfl, hb2⟩; have hB2 := hb2)
        rw [HQ.out]
        exact ⟨by rw [HV.out]; rfl, HB.out.trans ((((Below.refl _ _).alloc (Nat.le_refl _) _).trans (hB2.mono (by simp))).mono (by omega))⟩

set_option maxRecDepth 100000 in
set_option maxHeartbeats 400000 in
theorem fits5_no (w : World) (A : Option Addr) (len cap : Nat) (h1 : ¬ (len : Int) ≤ 2147483647) : Calls Tryd.prog 20 #[.slice A len cap] w fun e w' => e = .returned (.bool false) ∧ Below w.heap.size w w' := by
  have hle : (len : Int) > 2147483647 := by omega
  go_enter Tryd.func20, Tryd.ntmps20
  go_wp2
  go_ret
  exact ⟨rfl, Below.refl _ _⟩

end Go.Proofs.YtconeignnananaaDoor.Lv

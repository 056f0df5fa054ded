/- The statement FnLvVar: the walk. -/
import Derived.Test.YtconeignnananaaDoorVvImpl
import Derived.Test.YtconeignnananaaDoorVvFits
import Derived.Deep.Cut
import Derived.Deep.DeepCutAuto
import Derived.Deep.CutBlock
import Derived.Deep.QuietTactic
import Derived.BigQuiet
namespace Go.Proofs.YtconeignnananaaDoor.Lv
open Go Go.Lib Go.RowKit

def vGood (s : GVs) : Prop := 0 ≤ s.act ∧ s.act ≤ 5 ∧ ∀ b ∈ s.text.data.toList, b.toNat < 128
def tSum : List GVs → Nat
  | [] => 0
  | s :: r => s.text.size + tSum r
theorem tSum_app : ∀ l m : List GVs, tSum (l ++ m) = tSum l + tSum m
  | [], m => by simp [tSum]
  | s :: r, m => by simp only [List.cons_append, tSum]; rw [tSum_app r m]; omega
theorem tSum_mem : ∀ {l : List GVs} {s : GVs}, s ∈ l → s.text.size ≤ tSum l
  | a :: r, s, h => by
    rcases List.mem_cons.1 h with rfl | h
    · simp only [tSum]; omega
    · have := tSum_mem h; simp only [tSum]; omega
theorem vFits_mem {l : List GVs} (h : vFits l = true) : ∀ s ∈ l, s.text.size ≤ 2147483647 := fun s hs => by
  have := List.all_eq_true.1 h s hs
  have := of_decide_eq_true this
  omega
theorem tSum_le {l : List GVs} (h : ∀ s ∈ l, s.text.size ≤ 2147483647) : tSum l ≤ l.length * 2147483647 := by
  induction l with
  | nil => simp [tSum]
  | cons s r ih =>
    have h1 := h s (List.mem_cons_self ..)
    have h2 := ih (fun x hx => h x (List.mem_cons_of_mem _ hx))
    simp only [tSum, List.length_cons]
    omega
theorem vsWf_mem : ∀ {l : List GVs}, vsWf l → ∀ s ∈ l, i64B s.act ∧ i64B s.level ∧ s.text.size ≤ 140737488355328
  | a :: r, h, s, hs => by
    rcases List.mem_cons.1 hs with rfl | hs
    · exact h.1
    · exact vsWf_mem h.2 s hs
/-- A round of the first loop. -/
def VlR1 (w : World) (l : List GVs) (b o : Nat) (s3 s15 : Value) (wr : World) : Prop :=
  ∃ (done rest : List GVs), l = done ++ rest ∧ s3 = .int .i64 (tSum done) ∧ s15 = .int .i64 done.length ∧ (∀ s ∈ done, vGood s) ∧ RVss w rest b (o + done.length * 3) ∧ Below w.heap.size w wr
/-- Behind it. -/
def VlX1 (w : World) (l : List GVs) (s3 : Value) (wr : World) : Prop := s3 = .int .i64 (tSum l) ∧ (∀ s ∈ l, vGood s) ∧ Below w.heap.size w wr
/-- A round of the second loop. -/
def VlR2 (w W2 : World) (l : List GVs) (b o b6 o6 b7 o7 : Nat) (s57 : Value) (wr : World) : Prop :=
  ∃ (k : Nat) (rest : List GVs) (n : Int), k + rest.length = l.length ∧ s57 = .int .i64 k ∧ i64B n ∧ RVss w rest b (o + k * 3) ∧ ROuts W2 (vPlay n rest) b6 (o6 + k * 3) ∧ ROuts W2 (vPlay n rest) b7 (o7 + k * 3) ∧ (∀ s ∈ rest, textOk s) ∧ Below W2.heap.size W2 wr

set_option maxRecDepth 100000 in
set_option maxHeartbeats 4000000 in
/-- laws.FnLvVar, where the sizes fit. -/
theorem lawVv_core (l : List GVs) (w : World) (A : Option Addr) (len cap : Nat) (hl : RVsS w l A len) (hw : vsWf l) (hll : (len : Int) ≤ 2147483647) (hfit : vFits l = true) (hp : Pow w) (hE : Env w) :
    Calls Tryd.prog 7 #[.slice A len cap] w fun e w' => e = .returned (.bool true) ∧ Below w.heap.size w w' := by
  have CF := Lib.hid (fun wx (hb : Below w.heap.size w wx) => fits5_any l wx A len cap (hl.below hb) hw hll)
  have hmem := vFits_mem hfit
  have hsum := tSum_le hmem
  obtain ⟨Q, hQ⟩ : ∃ Q : Ending → World → Prop, Q = fun e w' => e = .returned (.bool true) ∧ Below w.heap.size w w' := ⟨_, rfl⟩
  rw [← hQ]
  have HQ := Lib.hid hQ
  have HL := Lib.hid hl
  have hl0 := hl.1
  have Hl0 := Lib.hid hl0
  have hst : ∃ b o, (0 < len → A = some ⟨b, o, none⟩) ∧ RVss w l b o := by
    by_cases hz : 0 < len
    · obtain ⟨b, o, e, hr⟩ := hl.2 hz
      exact ⟨b, o, fun _ => e, hr⟩
    · have : l = [] := List.length_eq_zero_iff.1 (by omega)
      subst this
      exact ⟨0, 0, fun h => absurd h hz, trivial⟩
  obtain ⟨b, o, hA, hs⟩ := hst
  have HA := Lib.hid hA
  have HS := Lib.hid hs
  have HW := Lib.hid (And.intro hw (And.intro hmem (And.intro hsum hll)))
  have HP := Lib.hid (And.intro hp hE)
  rw [hfit] at CF
  clear hQ hl hl0 hA hs hw hmem hsum hp hE hfit
  go_enter Tryd.func7, Tryd.ntmps7
  go_upto_block 0 with (go_at_call 20; (with_reducible refine (CF.out _ (Below.refl _ _)).mono ?_); rintro e w2 ⟨rfl, hb2⟩; have HB2 := Lib.hid hb2; clear hb2)
  go_cut [3] (fun x wx => VlX1 w l x wx)
  case rest =>
    clear CF HB2
    obtain ⟨rfl, hgood, hB⟩ := hcut
    have HB := Lib.hid hB
    have HG := Lib.hid hgood
    have hsz := hB.size
    have HSS := HS
    have HA0 := HA
    clear hgood hB HS HA
    by_cases h200 : (len : Int) ≤ 200
    · by_cases h65 : ((tSum l : Nat) : Int) ≤ 65536
      · have hok : ∀ s ∈ l, textOk s := fun s hs => by
          have h1 := HG.out s hs
          have h2 := vsWf_mem HW.out.1 s hs
          have h3 := tSum_mem hs
          exact ⟨by omega, h1.2.2, h1.1, h1.2.1, h2.2.1⟩
        have hl200 : l.length ≤ 200 := by have := Hl0.out; omega
        have CS := Lib.hid (fun wx (hb : Below w.heap.size w wx) => lvVar_any l wx A len cap (HL.out.below hb) hl200 hok (HP.out.1.on hb))
        have CI := Lib.hid (fun wx (hb : Below w.heap.size w wx) => levelVar_any l wx A len cap (HL.out.below hb) hl200 hok (HP.out.1.on hb) (HP.out.2.on hb))
        unfold OutsPost at CS CI
        have HOK := Lib.hid hok
        have HL2 := Lib.hid hl200
        have HV := Lib.hid (vPlay_len l 0)
        clear hok hl200
        go_wp2_with (first
          | (go_at_call 21; (with_reducible refine (CS.out _ HB.out).mono ?_); rintro e w3 ⟨A3, l3, c3, rfl, hr3, hb3⟩; have HR3 := Lib.hid hr3; have HB3 := Lib.hid (vbelow HB.out hb3); have h3l : (l3 : Int) = (len : Int) := (by have h1 := hr3.1; have h2 := HV.out; have h3 := Hl0.out; omega); clear hr3 hb3)
          | (go_at_call 22; (with_reducible refine (CI.out _ HB3.out).mono ?_); rintro e w4 ⟨A4, l4, c4, rfl, hr4, hb4⟩; have HR4 := Lib.hid (And.intro hr4 (HR3.out.below hb4)); have HB4 := Lib.hid (vbelow HB3.out hb4); have h4l : (l4 : Int) = (len : Int) := (by have h1 := hr4.1; have h2 := HV.out; have h3 := Hl0.out; omega); clear hr4 hb4))
        obtain rfl : l3 = len := by omega
        obtain rfl : l4 = l3 := by omega
        have hA3 : ∃ b6 o6, (0 < l4 → A3 = some ⟨b6, o6, none⟩) ∧ ROuts w4 (vPlay 0 l) b6 o6 := by
          by_cases hz : 0 < l4
          · obtain ⟨b6, o6, e, hr⟩ := HR4.out.2.2 hz
            exact ⟨b6, o6, fun _ => e, hr⟩
          · have : vPlay 0 l = [] := List.length_eq_zero_iff.1 (by have := HR4.out.2.1; omega)
            rw [this]
            exact ⟨0, 0, fun h => absurd h hz, trivial⟩
        have hA4 : ∃ b7 o7, (0 < l4 → A4 = some ⟨b7, o7, none⟩) ∧ ROuts w4 (vPlay 0 l) b7 o7 := by
          by_cases hz : 0 < l4
          · obtain ⟨b7, o7, e, hr⟩ := HR4.out.1.2 hz
            exact ⟨b7, o7, fun _ => e, hr⟩
          · have : vPlay 0 l = [] := List.length_eq_zero_iff.1 (by have := HR4.out.1.1; omega)
            rw [this]
            exact ⟨0, 0, fun h => absurd h hz, trivial⟩
        obtain ⟨b6, o6, hA3, hR3⟩ := hA3
        obtain ⟨b7, o7, hA4, hR4⟩ := hA4
        have HA3 := Lib.hid hA3
        have HA4 := Lib.hid hA4
        have HST := Lib.hid (show VlR2 w w4 l b o b6 o6 b7 o7 (.int .i64 0) w4 from ⟨0, l, 0, by omega, rfl, ⟨by decide, by decide⟩, by simpa using HSS.out, by simpa using hR3, by simpa using hR4, HOK.out, Below.refl _ _⟩)
        clear hA3 hA4 hR3 hR4 HOK h3l h4l
        go_loopw [57] (fun x wx => VlR2 w w4 l b o b6 o6 b7 o7 x wx) (fun x _ => l4 - (intOf x).toNat)
        case atStart => exact HST.out
        case round =>
          clear HST
          obtain ⟨k, rest, n, hk, rfl, hnb, hrs, hr6, hr7, hok, hB4⟩ := hrel
          have hk' := Hl0.out
          have HBB := Lib.hid hB4
          have hs4 := hB4.size
          have hwz : w.heap.size ≤ w4.heap.size := HB4.out.size
          cases rest with
          | nil =>
            have hke : ¬ ((k : Int) < (l4 : Int)) := by simp at hk; omega
            clear hk hk' hrs hr6 hr7 hok hnb hB4
            go_wp2
            rw [HQ.out]
            exact ⟨rfl, vbelow HB4.out HBB.out⟩
          | cons s r =>
            have hlt : (k : Int) < (l4 : Int) := by simp only [List.length_cons] at hk; omega
            have hk0 : (0 : Int) ≤ (k : Int) := by omega
            have hkk : k + 1 + r.length = l.length := by simp only [List.length_cons] at hk; omega
            have hA := HA0.out (by omega)
            have hA3 := HA3.out (by omega)
            have hA4 := HA4.out (by omega)
            subst hA hA3 hA4
            have Hok := Lib.hid (fun x hx => hok x (List.mem_cons_of_mem _ hx))
            obtain ⟨_, _, ha0, ha5, hlb⟩ := hok s (List.mem_cons_self ..)
            have HNX := Lib.hid (lvNext_bound hnb hlb)
            obtain ⟨p0, p1, p2, hr6⟩ : ROuts w4 (lvOut n s :: vPlay (lvNext n s) r) b6 (o6 + k * 3) := hr6
            obtain ⟨q0, q1, q2, hr7⟩ : ROuts w4 (lvOut n s :: vPlay (lvNext n s) r) b7 (o7 + k * 3) := hr7
            generalize (lvOut n s).level = OL at p0 q0
            generalize (lvOut n s).text = OT at p1 q1
            generalize (lvOut n s).ok = OK at p2 q2
            have HR := Lib.hid (And.intro hr6 hr7)
            obtain ⟨act, level, text⟩ := s
            obtain ⟨h0, h1, h2, hr⟩ := hrs
            have hbk : b < w.heap.size := World.block_lt_of_cell? w _ h0
            have hb6 : b6 < w4.heap.size := World.block_lt_of_cell? w4 _ p0
            have hb7 : b7 < w4.heap.size := World.block_lt_of_cell? w4 _ q0
            simp only at h0 h1 h2 ha0 ha5
            have hBW := vbelow HB4.out hB4
            have h0 := (hBW.cell (by exact hbk)).trans h0
            have h1 := (hBW.cell (by exact hbk)).trans h1
            have h2 := (hBW.cell (by exact hbk)).trans h2
            have p0 := (hB4.cell (by exact hb6)).trans p0
            have p1 := (hB4.cell (by exact hb6)).trans p1
            have p2 := (hB4.cell (by exact hb6)).trans p2
            have q0 := (hB4.cell (by exact hb7)).trans q0
            have q1 := (hB4.cell (by exact hb7)).trans q1
            have q2 := (hB4.cell (by exact hb7)).trans q2
            have HR2 := Lib.hid hr
            have hbb : b < wr.heap.size := by omega
            have hbb6 : b6 < wr.heap.size := by omega
            have hbb7 : b7 < wr.heap.size := by omega
            have HLB := Lib.hid hlb
            clear hk hk' hr hr6 hr7 hok hnb hB4 hBW hlb
            have hcase : act = 0 ∨ act = 1 ∨ act = 2 ∨ act = 3 ∨ act = 4 ∨ act = 5 := by omega
            clear ha0 ha5
            rcases hcase with rfl | rfl | rfl | rfl | rfl | rfl
            all_goals
              go_wp2
              go_quiet (fail)
            all_goals
              go_wp2
            all_goals
              go_quiet (fail)
            all_goals
              go_wp2
            all_goals
              go_quiet (fail)
            all_goals
              go_wp2
            all_goals
              refine ⟨⟨k + 1, r, lvNext n _, hkk, by push_cast; rfl, HNX.out, by have := HR2.out; rwa [show o + k * 3 + 3 = o + (k + 1) * 3 by omega] at this, by have := HR.out.1; rwa [show o6 + k * 3 + 3 = o6 + (k + 1) * 3 by omega] at this, by have := HR.out.2; rwa [show o7 + k * 3 + 3 = o7 + (k + 1) * 3 by omega] at this, Hok.out, by have q := HBB.out; exact vbelow q (by repeat' (first | with_reducible assumption | with_reducible exact Below.refl _ _ | with_reducible refine Below.setCell ?_ ?_ _ | with_reducible refine Below.alloc ?_ ?_ _ | with_reducible refine Below.drew ?_ | with_reducible refine below_drewN ?_ _ | omega | (simp; done) | (simp; omega)))⟩, ?_⟩
              simp only [intOf]; omega
      · have h65' : ((tSum l : Nat) : Int) > 65536 := by omega
        go_wp2
        rw [HQ.out]
        exact ⟨rfl, HB.out⟩
    · have h200' : (len : Int) > 200 := by omega
      go_wp2
      rw [HQ.out]
      exact ⟨rfl, HB.out⟩
  go_wp2
  go_loopw [3, 15] (fun x y wr => VlR1 w l b o x y wr) (fun _ y _ => len - (intOf y).toNat)
  case atStart => exact ⟨[], l, rfl, rfl, rfl, fun _ h => absurd h (by simp), by simpa using HS.out, HB2.out⟩
  case round =>
    clear HS HB2
    obtain ⟨done, rest, hl, rfl, rfl, hgood, hrs, hB⟩ := hrel
    have hsz := hB.size
    have HB := Lib.hid hB
    have HG := Lib.hid hgood
    have HLL := Lib.hid hl
    have hll := congrArg List.length hl
    rw [List.length_append] at hll
    have hk' := Hl0.out
    have hts := congrArg tSum hl
    rw [tSum_app] at hts
    have hws := HW.out.2.2.1
    have hlb := HW.out.2.2.2
    have ht0 : (0 : Int) ≤ (tSum done : Int) := by omega
    have ht1 : (tSum done : Int) ≤ 4611686018427387904 := by have : l.length * 2147483647 ≤ 2147483647 * 2147483647 := Nat.mul_le_mul_right _ (by omega); omega
    cases rest with
    | nil =>
      have hke : ¬ ((done.length : Int) < (len : Int)) := by simp at hll; omega
      have hld : l = done := by rw [hl, List.append_nil]
      have HF := Lib.hid (show VlX1 w l (.int .i64 (tSum done)) wr from ⟨by rw [hld], by rw [hld]; exact hgood, hB⟩)
      clear hl hll hk' hts hws hgood hrs hB hld
      go_wp2
      go_meet
      case rel => exact HF.out
    | cons s r =>
      have hlt : (done.length : Int) < (len : Int) := by simp only [List.length_cons] at hll; omega
      have hk0 : (0 : Int) ≤ (done.length : Int) := by omega
      have hA := HA.out (by omega)
      subst hA
      have hmem : s ∈ l := by rw [hl]; simp
      have hts2 := HW.out.2.1 s hmem
      obtain ⟨act, level, text⟩ := s
      obtain ⟨h0, h1, h2, hr⟩ := hrs
      have hbk : b < w.heap.size := World.block_lt_of_cell? w _ h0
      simp only at h0 h1 h2 hts2
      have h0 := (hB.cell (by exact hbk)).trans h0
      have h1 := (hB.cell (by exact hbk)).trans h1
      have h2 := (hB.cell (by exact hbk)).trans h2
      have HR := Lib.hid hr
      have hbb : b < wr.heap.size := by omega
      have CP := Lib.hid (fun wx => plain_any text (by omega) wx)
      have Hk := Lib.hid (And.intro hll hk')
      clear hl hll hk' hts hws hgood hr hB hmem
      by_cases a0 : act < 0
      · go_wp2
        rw [HQ.out]
        exact ⟨rfl, by have q := HB.out; exact vbelow q (by repeat' (first | with_reducible assumption | with_reducible exact Below.refl _ _ | with_reducible refine Below.setCell ?_ ?_ _ | with_reducible refine Below.alloc ?_ ?_ _ | with_reducible refine Below.drew ?_ | with_reducible refine below_drewN ?_ _ | omega | (simp; done) | (simp; omega)))⟩
      by_cases a5 : act > 5
      · go_wp2
        rw [HQ.out]
        exact ⟨rfl, by have q := HB.out; exact vbelow q (by repeat' (first | with_reducible assumption | with_reducible exact Below.refl _ _ | with_reducible refine Below.setCell ?_ ?_ _ | with_reducible refine Below.alloc ?_ ?_ _ | with_reducible refine Below.drew ?_ | with_reducible refine below_drewN ?_ _ | omega | (simp; done) | (simp; omega)))⟩
      obtain ⟨D, hD⟩ : ∃ D, D = text.data.toList.all fun b => decide (b.toNat < 128) := ⟨_, rfl⟩
      rw [← hD] at CP
      have HD := Lib.hid hD
      clear hD
      cases D with
      | false =>
        go_wp2_with (go_at_call 18; (with_reducible refine (CP.out _).mono ?_); rintro e w3 ⟨rfl, rfl⟩)
        rw [HQ.out]
        exact ⟨rfl, by have q := HB.out; exact vbelow q (by repeat' (first | with_reducible assumption | with_reducible exact Below.refl _ _ | with_reducible refine Below.setCell ?_ ?_ _ | with_reducible refine Below.alloc ?_ ?_ _ | with_reducible refine Below.drew ?_ | with_reducible refine below_drewN ?_ _ | omega | (simp; done) | (simp; omega)))⟩
      | true =>
        go_wp2_with (go_at_call 18; (with_reducible refine (CP.out _).mono ?_); rintro e w3 ⟨rfl, rfl⟩)
        refine ⟨⟨done ++ [⟨act, level, text⟩], r, by rw [HLL.out]; simp, by rw [tSum_app]; simp [tSum], by simp, fun x hx => ?_, by have := HR.out; rw [List.length_append, List.length_singleton]; rwa [show o + (done.length + 1) * 3 = o + done.length * 3 + 3 by omega], by have q := HB.out; exact vbelow q (by repeat' (first | with_reducible assumption | with_reducible exact Below.refl _ _ | with_reducible refine Below.setCell ?_ ?_ _ | with_reducible refine Below.alloc ?_ ?_ _ | with_reducible refine Below.drew ?_ | with_reducible refine below_drewN ?_ _ | omega | (simp; done) | (simp; omega)))⟩, ?_⟩
        · rcases List.mem_append.1 hx with hx | hx
          · exact HG.out x hx
          · have hx := List.mem_singleton.1 hx
            subst hx
            refine ⟨by omega, by omega, fun c hc => ?_⟩
            have := List.all_eq_true.1 HD.out.symm c hc
            exact of_decide_eq_true this
        · simp only [intOf]; omega

set_option maxRecDepth 100000 in
set_option maxHeartbeats 400000 in
theorem lawVv_no (w : World) (A : Option Addr) (len cap : Nat) (cF : Calls Tryd.prog 20 #[.slice A len cap] w fun e w' => e = .returned (.bool false) ∧ Below w.heap.size w w') :
    Calls Tryd.prog 7 #[.slice A len cap] w fun e w' => e = .returned (.bool true) ∧ Below w.heap.size w w' := by
  have CF := Lib.hid cF
  clear cF
  go_enter Tryd.func7, Tryd.ntmps7
  go_wp2_with (go_at_call 20; (with_reducible refine CF.out.mono ?_); rintro e w2 ⟨rfl, hb2⟩; have HB2 := Lib.hid hb2; clear hb2)
  go_ret
  exact ⟨rfl, HB2.out⟩
/-- laws.FnLvVar. -/
theorem lawVv_any (l : List GVs) (w : World) (A : Option Addr) (len cap : Nat) (hl : RVsS w l A len) (hw : vsWf l) (hp : Pow w) (hE : Env w) :
    Calls Tryd.prog 7 #[.slice A len cap] w fun e w' => e = .returned (.bool true) ∧ Below w.heap.size w w' := by
  by_cases h1 : (len : Int) ≤ 2147483647
  · cases hf : vFits l with
    | true => exact lawVv_core l w A len cap hl hw h1 hf hp hE
    | false =>
      have := fits5_any l w A len cap hl hw h1
      rw [hf] at this
      exact lawVv_no w A len cap this
  · exact lawVv_no w A len cap (fits5_no w A len cap h1)

end Go.Proofs.YtconeignnananaaDoor.Lv

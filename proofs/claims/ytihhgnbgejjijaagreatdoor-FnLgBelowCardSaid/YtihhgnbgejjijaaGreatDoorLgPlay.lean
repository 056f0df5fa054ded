/- spec.LgLeft, laws.lgFine: the walks. -/
import Derived.Test.YtihhgnbgejjijaaGreatDoorLgSame
import Derived.Test.YtihhgnbgejjijaaGreatDoorFits
import Derived.Deep.AppendLies
import Derived.Deep.RegionHeldLaw
import Derived.Test.YtihhgnbgejjijaaGreatDoorNewRec
namespace Go.Proofs.YtihhgnbgejjijaaGreatDoor.Va
set_option linter.unusedVariables false
set_option linter.unusedSimpArgs false
open Go Go.RowKit

/-- One round. -/
def LgRnd (w : World) (l : List GStep) (b o : Nat) (left0 : Int) (s2 s11 : Value) (wr : World) : Prop :=
  ∃ (k : Nat) (rest : List GStep) (left : Int), k + rest.length = l.length ∧ s11 = .int .i64 k ∧ s2 = .int .i64 left ∧ 0 ≤ left ∧ left ≤ 65536 ∧ lgLeft l left0 = lgLeft rest left ∧ RSteps w rest b (o + k * 6) ∧ stepsWf rest ∧ Below w.heap.size w wr

set_option maxRecDepth 100000 in
set_option maxHeartbeats 2000000 in
/-- spec.LgLeft. -/
theorem lgLeft_any (l : List GStep) (w : World) (left : Int) (A : Option Addr) (len cap : Nat) (hw : stepsWf l) (hl : RStepS w l A len) (hlen : len ≤ 140737488355328) (h0 : 0 ≤ left) (h1 : left ≤ 65536) :
    Calls Tryz.prog 79 #[.slice A len cap, .int .i64 20, .int .i64 left] w fun e w' => e = .returned (.int .i64 (lgLeft l left)) ∧ Below w.heap.size w w' := by
  obtain ⟨hl0, hl1⟩ := hl
  obtain ⟨Q, hQ⟩ : ∃ Q : Ending → World → Prop, Q = fun e w' => e = .returned (.int .i64 (lgLeft l left)) ∧ Below w.heap.size w w' := ⟨_, rfl⟩
  rw [← hQ]
  have HQ := Lib.hid hQ
  have HL := Lib.hid hl1
  have Hl0 := Lib.hid hl0
  have hst : ∃ b o, (0 < len → A = some ⟨b, o, none⟩) ∧ LgRnd w l b o left (.int .i64 left) (.int .i64 0) w := by
    by_cases hz : 0 < len
    · obtain ⟨b, o, e, hr⟩ := hl1 hz
      exact ⟨b, o, fun _ => e, 0, l, left, by omega, rfl, rfl, h0, h1, rfl, by simpa using hr, hw, Below.refl _ _⟩
    · have : l = [] := List.length_eq_zero_iff.1 (by omega)
      subst this
      exact ⟨0, 0, fun h => absurd h hz, 0, [], left, rfl, rfl, rfl, h0, h1, rfl, trivial, trivial, Below.refl _ _⟩
  obtain ⟨b, o, hA, hs⟩ := hst
  have HA := Lib.hid hA
  have HS := Lib.hid hs
  clear hQ hl0 hl1 hw hA hs h0 h1
  go_enter Tryz.func79, Tryz.ntmps79
  go_wp2
  go_loopw [2, 11] (fun x y wr => LgRnd w l b o left x y wr) (fun _ y _ => len - (intOf y).toNat)
  case atStart => exact HS.out
  case round =>
    clear HS
    obtain ⟨k, rest, lf, hk, rfl, rfl, g0, g1, hval, hrs, hrw, hB⟩ := hrel
    have hk' := Hl0.out
    have Hval := Lib.hid hval
    have hsz := hB.size
    clear hval
    cases rest with
    | nil =>
      have hke : ¬ ((k : Int) < (len : Int)) := by simp at hk; omega
      clear hk hk' hrs hrw
      go_wp2
      rw [HQ.out]
      exact ⟨by rw [Hval.out, lgLeft], hB⟩
    | cons s r =>
      have hlt : (k : Int) < (len : Int) := by simp only [List.length_cons] at hk; omega
      have hk0 : (0 : Int) ≤ (k : Int) := by omega
      have hkk : k + 1 + r.length = l.length := by simp only [List.length_cons] at hk; omega
      have hA := HA.out (by omega)
      subst hA
      obtain ⟨wf, Wr⟩ := hrw
      obtain ⟨h0, h1, h2, h3, ⟨Aa, la, ca, h4, hca, ha⟩, ⟨At, lt, ct, h5, hat⟩, hr⟩ := hrs
      have hK := keeps_of_below hB
      have h0 := hK.cell h0
      have h1 := hK.cell h1
      have h2 := hK.cell h2
      have h3 := hK.cell h3
      have h4 := hK.cell h4
      have h5 := hK.cell h5
      have HR := Lib.hid hr
      have HWr := Lib.hid Wr
      have HW := Lib.hid wf
      have Ha := Lib.hid (And.intro (ha.keep hK) (hat.keep hK))
      have hla := ha.1
      have hlt2 := hat.1
      obtain ⟨act, name, lvl, msg, args, attrs⟩ := s
      simp only at h0 h1 h2 h3 h4 h5 hla hlt2
      obtain ⟨⟨wa1, wa2⟩, wn, wl, wm, wg, wgl, wt, wtl⟩ := wf
      simp only at wa1 wa2 wn wm wgl wtl
      have hla2 : la ≤ 140737488355328 := by omega
      have hlt3 : lt ≤ 140737488355328 := by omega
      clear hla hlt2
      have hbb : b < wr.heap.size := World.block_lt_of_cell? wr _ h0
      have HB := Lib.hid hB
      clear hk hk' hr Wr hK ha hat wg wt wl hca
      by_cases hno : lf - (1 + name.size + msg.size) < 0 ∨ act < 0 ∨ 8 < act
      · have HE := Lib.hid (Hval.out.trans (lgLeft_no1 (s := ⟨act, name, lvl, msg, args, attrs⟩) (r := r) hno))
        clear Hval
        by_cases q1 : lf - (1 + name.size + msg.size) < 0
        · have q1' : lf - (1 + ↑name.size + ↑msg.size) < 0 := q1
          go_wp2
          rw [HQ.out]
          exact ⟨by rw [HE.out], HB.out.alloc (by omega) _⟩
        · by_cases q2 : act < 0
          · have q1' : ¬ lf - (1 + ↑name.size + ↑msg.size) < 0 := q1
            go_wp2
            rw [HQ.out]
            exact ⟨by rw [HE.out], HB.out.alloc (by omega) _⟩
          · have q3 : 8 < act := by
              rcases hno with h | h | h
              · exact absurd h q1
              · exact absurd h q2
              · exact h
            clear hno
            go_wp2
            rw [HQ.out]
            exact ⟨by rw [HE.out], HB.out.alloc (by omega) _⟩
      · have q1 : ¬ lf - (1 + name.size + msg.size) < 0 := fun h => hno (.inl h)
        have q2 : ¬ act < 0 := fun h => hno (.inr (.inl h))
        have q3 : ¬ 8 < act := fun h => hno (.inr (.inr h))
        have HNO := Lib.hid hno
        have CR := Lib.hid (fun wx (hk : Keeps wr wx) => rcLeft_any args wx (lf - (1 + name.size + msg.size)) Aa la ca HW.out.2.2.2.2.1 (Ha.out.1.keep hk) (by omega) (by omega) (by omega))
        have hle := rcLeft_le args false (lf - (1 + name.size + msg.size)) (by omega)
        clear hno
        generalize hR : rcLeft args false (lf - (1 + name.size + msg.size)) = R at CR hle
        have HR2 := Lib.hid hR
        clear hR
        by_cases p1 : R < 0
        · have HE := Lib.hid (Hval.out.trans (lgLeft_no2 (s := ⟨act, name, lvl, msg, args, attrs⟩) (r := r) HNO.out (by show rcLeft args false _ < 0; rw [HR2.out]; exact p1)))
          go_wp2_with (go_at_call 38; (refine (CR.out _ (keeps_of_below ((Below.refl _ _).alloc (Nat.le_refl _) _))).mono ?_); rintro e w2 ⟨rfl, hb2⟩; have HB2 := Lib.hid hb2; clear hb2)
          rw [HQ.out]
          exact ⟨by rw [HE.out]; rfl, keeps_below (HB.out.alloc (by omega) _) HB2.out⟩
        · have p2 : 0 ≤ R := by omega
          have CL := Lib.hid (fun wx (hk : Keeps wr wx) => leftAll_any attrs wx 20 R At lt ct HW.out.2.2.2.2.2.2.1 (Ha.out.2.keep hk) (by omega) (by omega) (by omega) (by omega) (by omega))
          have hle2 := vaLeftAll_le attrs 20 R p2
          generalize hT : vaLeftAll attrs 20 R = T at CL hle2
          have HT2 := Lib.hid hT
          clear hT
          by_cases t1 : T < 0
          · have HE := Lib.hid (Hval.out.trans (lgLeft_no3 (s := ⟨act, name, lvl, msg, args, attrs⟩) (r := r) HNO.out (by show ¬ rcLeft args false _ < 0; rw [HR2.out]; exact p1) (by show vaLeftAll attrs 20 (rcLeft args false _) < 0; rw [HR2.out, HT2.out]; exact t1)))
            go_wp2_with (first
              | (go_at_call 38; (refine (CR.out _ (keeps_of_below ((Below.refl _ _).alloc (Nat.le_refl _) _))).mono ?_); rintro e w2 ⟨rfl, hb2⟩; have HB2 := Lib.hid hb2; obtain ⟨hc2, hf2⟩ := bcell hb2; clear hb2)
              | (go_at_call 61; (refine (CL.out _ (keeps_of_below (((Below.refl _ _).alloc (Nat.le_refl _) _).trans (HB2.out.mono (by simp))))).mono ?_); rintro e w3 ⟨rfl, hb3⟩; have HB3 := Lib.hid hb3; clear hb3))
            rw [HQ.out]
            exact ⟨by rw [HE.out]; rfl, keeps_below (keeps_below (HB.out.alloc (by omega) _) HB2.out) HB3.out⟩
          · have t2 : 0 ≤ T := by omega
            have HE := Lib.hid (Hval.out.trans (lgLeft_on (s := ⟨act, name, lvl, msg, args, attrs⟩) (r := r) HNO.out (by show ¬ rcLeft args false _ < 0; rw [HR2.out]; exact p1) (by show ¬ vaLeftAll attrs 20 (rcLeft args false _) < 0; rw [HR2.out, HT2.out]; exact t1)))
            go_wp2_with (first
              | (go_at_call 38; (refine (CR.out _ (keeps_of_below ((Below.refl _ _).alloc (Nat.le_refl _) _))).mono ?_); rintro e w2 ⟨rfl, hb2⟩; have HB2 := Lib.hid hb2; obtain ⟨hc2, hf2⟩ := bcell hb2; clear hb2)
              | (go_at_call 61; (refine (CL.out _ (keeps_of_below (((Below.refl _ _).alloc (Nat.le_refl _) _).trans (HB2.out.mono (by simp))))).mono ?_); rintro e w3 ⟨rfl, hb3⟩; have HB3 := Lib.hid hb3; clear hb3))
            refine ⟨⟨k + 1, r, T, hkk, by push_cast; rfl, rfl, t2, by omega, ?_, ?_, HWr.out, keeps_below (keeps_below (HB.out.alloc (by omega) _) HB2.out) HB3.out⟩, ?_⟩
            · rw [HE.out]; show lgLeft r (vaLeftAll attrs 20 (rcLeft args false _)) = _; rw [HR2.out, HT2.out]
            · have := HR.out; rwa [show o + k * 6 + 6 = o + (k + 1) * 6 by omega] at this
            · simp only [intOf]; omega

set_option maxRecDepth 100000 in
set_option maxHeartbeats 400000 in
/-- laws.lgFine. -/
theorem lgFine_no (l : List GStep) (w : World) (A : Option Addr) (len cap : Nat) (h : ¬ (len : Int) ≤ 200) :
    Calls Tryz.prog 33 #[.slice A len cap] w (BoolEnd false w) := by
  unfold BoolEnd
  have hf : decide ((len : Int) ≤ 200) = false := decide_eq_false h
  go_enter Tryz.func33, Tryz.ntmps33
  go_wp2
  go_ret
  exact ⟨rfl, Below.refl _ _⟩
set_option maxRecDepth 100000 in
set_option maxHeartbeats 400000 in
theorem lgFine_yes (l : List GStep) (w : World) (A : Option Addr) (len cap : Nat) (hw : stepsWf l) (hl : RStepS w l A len) (h : (len : Int) ≤ 200) :
    Calls Tryz.prog 33 #[.slice A len cap] w (BoolEnd (decide (0 ≤ lgLeft l 65536)) w) := by
  unfold BoolEnd
  have HL := Lib.hid (fun wx (hk : Keeps w wx) => lgLeft_any l wx 65536 A len cap hw (hl.keep hk) (by omega) (by omega) (by omega))
  clear hl
  go_enter Tryz.func33, Tryz.ntmps33
  go_wp2_with (go_at_call 79; refine (HL.out _ (keeps_of_below (by repeat' (first | with_reducible assumption | with_reducible exact Below.refl _ _ | with_reducible refine Below.setCell ?_ ?_ _ | with_reducible refine Below.alloc ?_ ?_ _ | with_reducible refine Below.drew ?_ | with_reducible refine below_drewN ?_ _ | omega | (simp; done) | (simp; omega))))).mono ?_; rintro e w2 ⟨rfl, hb2⟩; have hB2 := keeps_below (show Below w.heap.size w _ from (by repeat' (first | with_reducible assumption | with_reducible exact Below.refl _ _ | with_reducible refine Below.setCell ?_ ?_ _ | with_reducible refine Below.alloc ?_ ?_ _ | with_reducible refine Below.drew ?_ | with_reducible refine below_drewN ?_ _ | omega | (simp; done) | (simp; omega)))) hb2)
  go_ret
  exact ⟨rfl, hB2⟩

end Go.Proofs.YtihhgnbgejjijaaGreatDoor.Va

/- spec.lgLevel, lgAttrs, LgPlay: the walks. -/
namespace Go.Proofs.YtihhgnbgejjijaaGreatDoor.Va
set_option linter.unusedVariables false
set_option linter.unusedSimpArgs false
open Go Go.RowKit

section
variable (act : Int) (name : ByteArray) (level : Int) (msg : ByteArray) (args : List GArg) (attrs : GAttrs) (Aa : Option Addr) (la ca : Nat) (At : Option Addr) (lt ct : Nat) (w : World)
set_option maxRecDepth 100000 in
set_option maxHeartbeats 1000000 in
/-- spec.lgLevel. -/
theorem lgLevel_any : Calls Tryz.prog 80 #[.agg #[.int .i64 act, .string name, .int .i64 level, .string msg, .slice Aa la ca, .slice At lt ct]] w fun e w' => e = .returned (.int .i64 (lgLevel ⟨act, name, level, msg, args, attrs⟩)) ∧ Below w.heap.size w w' := by
  unfold lgLevel
  simp only
  by_cases h4 : act = 4
  · subst h4
    go_enter Tryz.func80, Tryz.ntmps80
    go_wp2
    go_ret
    exact ⟨rfl, (by repeat' (first | with_reducible assumption | with_reducible exact Below.refl _ _ | with_reducible refine Below.setCell ?_ ?_ _ | with_reducible refine Below.alloc ?_ ?_ _ | with_reducible refine Below.drew ?_ | with_reducible refine below_drewN ?_ _ | omega | (simp; done) | (simp; omega)))⟩
  rw [if_neg h4]
  by_cases h5 : act = 5
  · subst h5
    go_enter Tryz.func80, Tryz.ntmps80
    go_wp2
    go_ret
    exact ⟨rfl, (by repeat' (first | with_reducible assumption | with_reducible exact Below.refl _ _ | with_reducible refine Below.setCell ?_ ?_ _ | with_reducible refine Below.alloc ?_ ?_ _ | with_reducible refine Below.drew ?_ | with_reducible refine below_drewN ?_ _ | omega | (simp; done) | (simp; omega)))⟩
  rw [if_neg h5]
  by_cases h6 : act = 6
  · subst h6
    go_enter Tryz.func80, Tryz.ntmps80
    go_wp2
    go_ret
    exact ⟨rfl, (by repeat' (first | with_reducible assumption | with_reducible exact Below.refl _ _ | with_reducible refine Below.setCell ?_ ?_ _ | with_reducible refine Below.alloc ?_ ?_ _ | with_reducible refine Below.drew ?_ | with_reducible refine below_drewN ?_ _ | omega | (simp; done) | (simp; omega)))⟩
  rw [if_neg h6]
  by_cases h7 : act = 7
  · subst h7
    go_enter Tryz.func80, Tryz.ntmps80
    go_wp2
    go_ret
    exact ⟨rfl, (by repeat' (first | with_reducible assumption | with_reducible exact Below.refl _ _ | with_reducible refine Below.setCell ?_ ?_ _ | with_reducible refine Below.alloc ?_ ?_ _ | with_reducible refine Below.drew ?_ | with_reducible refine below_drewN ?_ _ | omega | (simp; done) | (simp; omega)))⟩
  rw [if_neg h7]
  go_enter Tryz.func80, Tryz.ntmps80
  go_wp2
  go_ret
  exact ⟨rfl, (by repeat' (first | with_reducible assumption | with_reducible exact Below.refl _ _ | with_reducible refine Below.setCell ?_ ?_ _ | with_reducible refine Below.alloc ?_ ?_ _ | with_reducible refine Below.drew ?_ | with_reducible refine below_drewN ?_ _ | omega | (simp; done) | (simp; omega)))⟩

set_option maxRecDepth 100000 in
set_option maxHeartbeats 1000000 in
/-- spec.lgAttrs. -/
theorem lgAttrs_any (ha : RArgS w args Aa la) (hca : la ≤ ca) (ht : RS w attrs At lt) (hz : argsSize args ≤ 65536) (hn : args.length ≤ 300000) (hz2 : attrs.size ≤ 65536) :
    Calls Tryz.prog 78 #[.agg #[.int .i64 act, .string name, .int .i64 level, .string msg, .slice Aa la ca, .slice At lt ct]] w (ListPost (if act = 3 then vaTidyAll attrs else vaTidyAll (rcRaw args)) w) := by
  have CT := Lib.hid (fun l wx A n c (h : l.size ≤ 131072) (hr : RS wx l A n) => tidyAll_any l wx A n c (by omega) hr)
  have CR := Lib.hid (fun wx (hk : Keeps w wx) => rcArgs_any args wx Aa la ca (by omega) hn hca (ha.keep hk))
  have HT := Lib.hid (fun wx (hk : Keeps w wx) => ht.keep hk)
  have HZ := Lib.hid (show (tidyMap (rcRaw args)).size ≤ 131072 by have h1 := tidy_gsize_map (rcRaw args); have h2 := (rcRaw_size args).1; omega)
  have HZ2 := Lib.hid (show attrs.size ≤ 131072 by omega)
  have hm : vaTidyAll (rcRaw args) = vaTidyAll (tidyMap (rcRaw args)) := (tidyAll_map _).symm
  rw [hm]
  generalize tidyMap (rcRaw args) = m at CR HZ ⊢
  unfold ListPost at CT CR ⊢
  clear ha hca ht hz hn hz2 hm
  by_cases h3 : act = 3
  · subst h3
    rw [if_pos rfl]
    go_enter Tryz.func78, Tryz.ntmps78
    go_wp2_with (go_at_call 16; (refine (CT.out attrs _ At lt ct HZ2.out (HT.out _ (keeps_of_below (by repeat' (first | with_reducible assumption | with_reducible exact Below.refl _ _ | with_reducible refine Below.setCell ?_ ?_ _ | with_reducible refine Below.alloc ?_ ?_ _ | with_reducible refine Below.drew ?_ | with_reducible refine below_drewN ?_ _ | omega | (simp; done) | (simp; omega)))))).mono ?_); rintro e w2 ⟨A2, l2, c2, rfl, hr2, hb2⟩; have HR2 := Lib.hid hr2; have HB2 := Lib.hid hb2; clear hr2 hb2)
    go_ret
    exact ⟨A2, l2, c2, rfl, HR2.out.turn (KeepsOn.refl _ _) (fun b hb _ => by simp at hb ⊢; omega), keeps_below (show Below w.heap.size w _ from (by repeat' (first | with_reducible assumption | with_reducible exact Below.refl _ _ | with_reducible refine Below.setCell ?_ ?_ _ | with_reducible refine Below.alloc ?_ ?_ _ | with_reducible refine Below.drew ?_ | with_reducible refine below_drewN ?_ _ | omega | (simp; done) | (simp; omega)))) HB2.out⟩
  · rw [if_neg h3]
    go_enter Tryz.func78, Tryz.ntmps78
    go_wp2_with (first
      | (go_at_call 17; (refine (CR.out _ (keeps_of_below (by repeat' (first | with_reducible assumption | with_reducible exact Below.refl _ _ | with_reducible refine Below.setCell ?_ ?_ _ | with_reducible refine Below.alloc ?_ ?_ _ | with_reducible refine Below.drew ?_ | with_reducible refine below_drewN ?_ _ | omega | (simp; done) | (simp; omega))))).mono ?_); rintro e w1 ⟨A1, l1, c1, rfl, hr1, hb1⟩; have HR1 := Lib.hid hr1.rs; have HB1 := Lib.hid (keeps_below (show Below w.heap.size w _ from (by repeat' (first | with_reducible assumption | with_reducible exact Below.refl _ _ | with_reducible refine Below.setCell ?_ ?_ _ | with_reducible refine Below.alloc ?_ ?_ _ | with_reducible refine Below.drew ?_ | with_reducible refine below_drewN ?_ _ | omega | (simp; done) | (simp; omega)))) hb1); clear hr1 hb1)
      | (go_at_call 16; (refine (CT.out m _ A1 l1 c1 HZ.out HR1.out).mono ?_); rintro e w2 ⟨A2, l2, c2, rfl, hr2, hb2⟩; have HR2 := Lib.hid hr2; have HB2 := Lib.hid hb2; clear hr2 hb2))
    go_ret
    exact ⟨A2, l2, c2, rfl, HR2.out.turn (KeepsOn.refl _ _) (fun b hb _ => by have := HB1.out.size; simp at hb ⊢; omega), keeps_below HB1.out HB2.out⟩
end

theorem REX.app {P : Nat → Prop} {w : World} : ∀ (l m : List GEv) (xs ys : List Value), REX P w l xs → REX P w m ys → REX P w (l ++ m) (xs ++ ys)
  | [], _, xs, _, h, k => by cases h; exact k
  | e :: r, m, xs, zs, h, k => by
    obtain ⟨A, len, cap, ys, rfl, hl, hr⟩ := h
    exact ⟨A, len, cap, ys ++ zs, by simp, hl, REX.app r m ys zs hr k⟩
/-- What events more make of the call's own row. -/
theorem rex_app {w2 w3 wn : World} {base lo g n cap : Nat} {u : Value} {acc evs : List GEv} {xs news : List Value} (hx : REX (Beside base u) w2 acc xs) (hd : REX (fun b => lo ≤ b) w2 evs news) (hlo : ∀ g, u.ownBlock = some g → g < lo) (hbase : base ≤ lo)
    (hk : ∀ P, KeepsOn P w2 wn) (hs : w2.heap.size ≤ wn.heap.size) (hg : wn.grownBy w3 u.ownBlock) (hat : u.ownBlock = some g ∨ g = wn.heap.size) : REX (Beside base (.slice (some ⟨g, 0, none⟩) n cap)) w3 (acc ++ evs) (xs ++ news) := by
  have hQ : ∀ b, Beside base u b → b < w2.heap.size → Beside base (.slice (some ⟨g, 0, none⟩) n cap) b := by
    rintro b ⟨h1, h2⟩ h3
    refine ⟨h1, fun e => ?_⟩
    have e : some b = some g := e
    rcases hat with h | h
    · exact h2 (e.trans h.symm)
    · injection e with e; omega
  have hK : KeepsOn (Beside base u) w2 w3 := (hk _).trans (keepsOn_of_grown hg (fun b hb => hb.2))
  have hd' : REX (Beside base u) w2 evs news := REX.turn (KeepsOn.refl _ _) (fun b hb _ => ⟨Nat.le_trans hbase hb, fun e => by have := hlo b e.symm; omega⟩) evs news hd
  exact REX.app _ _ _ _ (REX.turn hK hQ acc xs hx) (REX.turn hK hQ evs news hd')

def playOk (s : GStep) : Prop := argsSize s.args ≤ 65536 ∧ s.args.length ≤ 65536 ∧ s.attrs.size ≤ 65536
/-- One round. -/
def PlRnd (least : Int) (w : World) (l : List GStep) (b o : Nat) (s5 s12 : Value) (wr : World) : Prop :=
  ∃ (k : Nat) (rest : List GStep) (acc : List GEv) (n : Nat) (xs : List Value), k + rest.length = l.length ∧ s12 = .int .i64 k ∧ wantEvs least l = acc ++ wantEvs least rest ∧ wr.ownsRow w.heap.size 101 6 s5 n xs ∧ REX (Beside w.heap.size s5) wr acc xs ∧
    RSteps w rest b (o + k * 6) ∧ (∀ s ∈ rest, playOk s) ∧ acc.length + 2 * rest.length ≤ 400 ∧ Below w.heap.size w wr
def EvsPost (l : List GEv) (w : World) (e : Ending) (w' : World) : Prop := ∃ A len cap, e = .returned (.slice A len cap) ∧ REvS (New w) w' l A len ∧ Below w.heap.size w w'

set_option maxRecDepth 100000 in
set_option maxHeartbeats 4000000 in
/-- spec.LgPlay. -/
theorem lgPlay_any (least : Int) (l : List GStep) (w : World) (A : Option Addr) (len cap : Nat) (hl : RStepS w l A len) (hok : ∀ s ∈ l, playOk s) (hn : l.length ≤ 200) :
    Calls Tryz.prog 34 #[.int .i64 least, .slice A len cap] w (EvsPost (wantEvs least l) w) := by
  obtain ⟨i0, hi, hz0, hz1, hz2⟩ := info_parts infoEvent
  obtain ⟨hl0, hl1⟩ := hl
  obtain ⟨Q, hQ⟩ : ∃ Q : Ending → World → Prop, Q = EvsPost (wantEvs least l) w := ⟨_, rfl⟩
  rw [← hQ]
  have HQ := Lib.hid hQ
  have Hl0 := Lib.hid hl0
  have hst : ∃ b o, (0 < len → A = some ⟨b, o, none⟩) ∧ PlRnd least w l b o (.slice none 0 0) (.int .i64 0) w := by
    by_cases hz : 0 < len
    · obtain ⟨b, o, e, hr⟩ := hl1 hz
      exact ⟨b, o, fun _ => e, 0, l, [], 0, [], by omega, rfl, rfl, World.ownsRow_nil _ _ _ _, rfl, by simpa using hr, hok, by simp; omega, Below.refl _ _⟩
    · have : l = [] := List.length_eq_zero_iff.1 (by omega)
      subst this
      exact ⟨0, 0, fun h => absurd h hz, 0, [], [], 0, [], rfl, rfl, rfl, World.ownsRow_nil _ _ _ _, rfl, trivial, hok, by simp, Below.refl _ _⟩
  obtain ⟨b, o, hA, hs⟩ := hst
  have HA := Lib.hid hA
  have HS := Lib.hid hs
  have HN := Lib.hid hn
  clear hQ hl0 hl1 hA hs hok hn
  go_enter Tryz.func34, Tryz.ntmps34
  go_wp2
  go_loopw [5, 12] (fun x y wr => PlRnd least w l b o x y wr) (fun _ y _ => len - (intOf y).toNat)
  case atStart => exact HS.out
  case round =>
    clear HS
    obtain ⟨k, rest, acc, n, xs, hk, rfl, hval, hown, hx, hrs, hok, hac, hB⟩ := hrel
    have hk' := Hl0.out
    have Hval := Lib.hid hval
    have HX := Lib.hid hx
    have HO := Lib.hid hown
    have HLO := Lib.hid hown.lt
    have hsz := hB.size
    have hn : n = acc.length := by have h1 := hown.1; have h2 := REX.len acc xs hx; omega
    cases rest with
    | nil =>
      have hke : ¬ ((k : Int) < (len : Int)) := by simp at hk; omega
      obtain ⟨A', cap', rfl, hrsp⟩ := revs_of_owns (Q := New w) hown hx (fun b hb => hb.1) (fun b hb => hb)
      have HR := Lib.hid hrsp
      clear hk hk' hrs hok hown hx hval hrsp hn
      go_wp2
      rw [HQ.out]
      exact ⟨A', _, cap', rfl, by rw [Hval.out, show wantEvs least [] = [] from rfl, List.append_nil]; exact HR.out, hB⟩
    | cons s r =>
      have hlt : (k : Int) < (len : Int) := by simp only [List.length_cons] at hk; omega
      have hk0 : (0 : Int) ≤ (k : Int) := by omega
      have hkk : k + 1 + r.length = l.length := by simp only [List.length_cons] at hk; omega
      have hac2 : acc.length + 2 + 2 * r.length ≤ 400 := by simp only [List.length_cons] at hac; omega
      have hn4 : n ≤ 400 := by omega
      have hkb : k ≤ 200 := by have := HN.out; omega
      have hA := HA.out (by omega)
      subst hA
      have Hok := Lib.hid hok
      obtain ⟨h0, h1, h2, h3, ⟨Aa, la, ca, h4, hca, ha⟩, ⟨At, lt, ct, h5, hat⟩, hr⟩ := hrs
      have hK := keeps_of_below hB
      have h0 := hK.cell h0
      have h1 := hK.cell h1
      have h2 := hK.cell h2
      have h3 := hK.cell h3
      have h4 := hK.cell h4
      have h5 := hK.cell h5
      have HR := Lib.hid hr
      have Hca := Lib.hid hca
      have Ha := Lib.hid (And.intro (ha.keep hK) (hat.keep hK))
      have hla : la = s.args.length := ha.1
      have HV := Lib.hid (hval.trans (by rw [wantEvs, ← List.append_assoc] : acc ++ wantEvs least (s :: r) = (acc ++ wantEv least s) ++ wantEvs least r))
      obtain ⟨act, name, level, msg, args, attrs⟩ := s
      simp only at h0 h1 h2 h3 h4 h5 hla
      have Hla := Lib.hid hla
      have hbb : b < wr.heap.size := World.block_lt_of_cell? wr _ h0
      have HB := Lib.hid hB
      have CL := Lib.hid (fun wx => lgLevel_any act name level msg args attrs Aa la ca At lt ct wx)
      have CA := Lib.hid (fun wx (hk : Keeps wr wx) => lgAttrs_any act name level msg args attrs Aa la ca At lt ct wx (Ha.out.1.keep hk) Hca.out (Ha.out.2.keep hk) (Hok.out _ (List.mem_cons_self ..)).1 (by have := (Hok.out _ (List.mem_cons_self ..)).2.1; simp only at this; omega) (Hok.out _ (List.mem_cons_self ..)).2.2)
      have CR := Lib.hid (fun wx (hk : Keeps wr wx) => rcArgs_any args wx Aa la ca (by have := (Hok.out _ (List.mem_cons_self ..)).1; simp only at this; omega) (by have := (Hok.out _ (List.mem_cons_self ..)).2.1; simp only at this; omega) Hca.out (Ha.out.1.keep hk))
      unfold ListPost at CA CR
      generalize hL : lgLevel ⟨act, name, level, msg, args, attrs⟩ = L at CL
      have HL := Lib.hid hL
      clear hL hk hk' hr hK ha hat hca hla hown hx hval hok hn hac hB Hval
      have hLV : True := trivial
      by_cases a0 : act = 0
      · subst a0
        cases args with
        | nil =>
          obtain rfl : la = 0 := Hla.out
          have HW := Lib.hid (show wantEv least ⟨0, name, level, msg, [], attrs⟩ = [] from rfl)
          go_wp2_with (first
            | (go_at_call 80; (refine (CL.out _).mono ?_); rintro e w2 ⟨rfl, hb2⟩; have HB2 := Lib.hid hb2; obtain ⟨hc2, hf2⟩ := bcell hb2; have hs2 := hb2.size; simp only [World.size_alloc] at hs2; have hl2 : wr.heap.size < w2.heap.size := (by omega); have HBW := Lib.hid (show Below wr.heap.size wr w2 from ((Below.refl _ _).alloc (Nat.le_refl _) _).trans (hb2.mono (by simp))); clear hb2))
          refine ⟨⟨k + 1, r, acc, n, xs, hkk, by push_cast; rfl, by rw [HV.out, HW.out, List.append_nil], (own_below HO.out HBW.out).alloc _, REX.turn ((((keeps_of_below HBW.out).on _)).alloc _) (fun _ h _ => h) acc xs HX.out, ?_, fun x hx => Hok.out x (List.mem_cons_of_mem _ hx), by omega, (keeps_below HB.out HBW.out).alloc (by omega) _⟩, ?_⟩
          · have := HR.out; rwa [show o + k * 6 + 6 = o + (k + 1) * 6 by omega] at this
          · simp only [intOf]; omega
        | cons a1 ar =>
          have hla0 : (0 : Int) < (la : Int) := by have := Hla.out; simp only [List.length_cons] at this; omega
          have HW := Lib.hid (show wantEv least ⟨0, name, level, msg, a1 :: ar, attrs⟩ = [⟨1, 0, false, ByteArray.empty, ByteArray.empty, tidyMap (rcRaw (a1 :: ar))⟩] from rfl)
          generalize tidyMap (rcRaw (a1 :: ar)) = D at CR HW
          go_wp2_with (first
            | (go_at_call 80; (refine (CL.out _).mono ?_); rintro e w2 ⟨rfl, hb2⟩; have HB2 := Lib.hid hb2; obtain ⟨hc2, hf2⟩ := bcell hb2; have hs2 := hb2.size; simp only [World.size_alloc] at hs2; have hl2 : wr.heap.size < w2.heap.size := (by omega); have HBW := Lib.hid (show Below wr.heap.size wr w2 from ((Below.refl _ _).alloc (Nat.le_refl _) _).trans (hb2.mono (by simp))); clear hb2)
            | (go_at_call 17; (refine (CR.out _ (keeps_of_below (HBW.out.alloc (by omega) _))).mono ?_); rintro e w4 ⟨A4, l4, c4, rfl, hr4, hb4⟩; have HR4 := Lib.hid hr4; have HB4 := Lib.hid hb4; have hs4 := hb4.size; simp only [World.size_alloc] at hs4; have HO4 := Lib.hid (own_below ((own_below HO.out HBW.out).alloc _) hb4); have HK4 := Lib.hid (((keeps_of_below HBW.out).on (Beside w.heap.size u5)).alloc _ |>.trans ((keeps_of_below hb4).on _)); have HB4w := Lib.hid (keeps_below ((keeps_below HB.out HBW.out).alloc (by omega) _) hb4); clear hr4 hb4)
            | (at_builtin; refine wpList_append_lies _ rfl (.tmp 41) (.tmp 46) 63 rfl w.heap.size 101 i0 _ 6 80 Tryz.underlying63 hi hz0 hz1 hz2 rfl (by decide) _ n xs rfl (HO4.out.alloc _) ⟨_, 0, none⟩ 1 1 [.int .i64 1, .int .i64 0, .bool false, .string ⟨#[]⟩, .string ⟨#[]⟩, .slice A4 l4 c4] rfl rfl (by intro j u hj; exact cells_new _ _ _ _ (by simp) j u hj) (by intro u hu; simp at hu; (repeat' (rcases hu with rfl | hu)); all_goals (first | rfl | (subst hu; rfl))) (by decide) (by unfold maxLen; omega) (by omega) (by simp; omega) _ rfl ?_; intro g5 cap5 w5 hown5 hgrow5 hat5 hlt5; have HO5 := Lib.hid hown5; have HG5 := Lib.hid hgrow5; have HA5 := Lib.hid hat5; clear hown5 hgrow5 hat5 hlt5))
          refine ⟨⟨k + 1, r, acc ++ [_], n + 1, _, hkk, by push_cast; rfl, by rw [HV.out, HW.out], HO5.out, rex_app (lo := wr.heap.size) (REX.turn HK4.out (fun _ h _ => h) acc xs HX.out) ⟨A4, l4, c4, [], rfl, HR4.out.turn (Q := fun b => wr.heap.size ≤ b) (KeepsOn.refl _ _) (fun b hb _ => by simp at hb; omega), rfl⟩ (fun g hg => (HLO.out g hg).2) hsz (fun P => (KeepsOn.refl _ _).alloc _) (by simp) HG5.out HA5.out, ?_, fun x hx => Hok.out x (List.mem_cons_of_mem _ hx), by simp only [List.length_append, List.length_cons, List.length_nil]; omega, Below.grown (HB4w.out.alloc (by omega) _) HG5.out (by simp; omega) (fun g hg => (HLO.out g hg).1)⟩, ?_⟩
          · have := HR.out; rwa [show o + k * 6 + 6 = o + (k + 1) * 6 by omega] at this
          · simp only [intOf]; omega
      by_cases a1 : act = 1
      · subst a1
        by_cases hnm : name = ByteArray.empty
        · subst hnm
          have HW := Lib.hid (show wantEv least ⟨1, ByteArray.empty, level, msg, args, attrs⟩ = [] from rfl)
          go_wp2_with (first
            | (go_at_call 80; (refine (CL.out _).mono ?_); rintro e w2 ⟨rfl, hb2⟩; have HB2 := Lib.hid hb2; obtain ⟨hc2, hf2⟩ := bcell hb2; have hs2 := hb2.size; simp only [World.size_alloc] at hs2; have hl2 : wr.heap.size < w2.heap.size := (by omega); have HBW := Lib.hid (show Below wr.heap.size wr w2 from ((Below.refl _ _).alloc (Nat.le_refl _) _).trans (hb2.mono (by simp))); clear hb2))
          refine ⟨⟨k + 1, r, acc, n, xs, hkk, by push_cast; rfl, by rw [HV.out, HW.out, List.append_nil], (own_below HO.out HBW.out).alloc _, REX.turn ((((keeps_of_below HBW.out).on _)).alloc _) (fun _ h _ => h) acc xs HX.out, ?_, fun x hx => Hok.out x (List.mem_cons_of_mem _ hx), by omega, (keeps_below HB.out HBW.out).alloc (by omega) _⟩, ?_⟩
          · have := HR.out; rwa [show o + k * 6 + 6 = o + (k + 1) * 6 by omega] at this
          · simp only [intOf]; omega
        · have HW := Lib.hid (show wantEv least ⟨1, name, level, msg, args, attrs⟩ = [⟨2, 0, false, name, ByteArray.empty, .nil⟩] from by unfold wantEv; simp [hnm])
          have hnn := toList_ne hnm
          go_wp2_with (first
            | (go_at_call 80; (refine (CL.out _).mono ?_); rintro e w2 ⟨rfl, hb2⟩; have HB2 := Lib.hid hb2; obtain ⟨hc2, hf2⟩ := bcell hb2; have hs2 := hb2.size; simp only [World.size_alloc] at hs2; have hl2 : wr.heap.size < w2.heap.size := (by omega); have HBW := Lib.hid (show Below wr.heap.size wr w2 from ((Below.refl _ _).alloc (Nat.le_refl _) _).trans (hb2.mono (by simp))); clear hb2)
            | (at_builtin; refine wpList_append_lies _ rfl (.tmp 55) (.tmp 59) 63 rfl w.heap.size 101 i0 _ 6 80 Tryz.underlying63 hi hz0 hz1 hz2 rfl (by decide) _ n xs rfl (((own_below HO.out HBW.out).alloc _).alloc _) ⟨_, 0, none⟩ 1 1 [.int .i64 2, .int .i64 0, .bool false, .string name, .string ⟨#[]⟩, .slice none 0 0] rfl rfl (by intro j u hj; exact cells_new _ _ _ _ (by simp) j u hj) (by intro u hu; simp at hu; (repeat' (rcases hu with rfl | hu)); all_goals (first | rfl | (subst hu; rfl))) (by decide) (by unfold maxLen; omega) (by omega) (by simp; omega) _ rfl ?_; intro g5 cap5 w5 hown5 hgrow5 hat5 hlt5; have HO5 := Lib.hid hown5; have HG5 := Lib.hid hgrow5; have HA5 := Lib.hid hat5; clear hown5 hgrow5 hat5 hlt5))
          refine ⟨⟨k + 1, r, acc ++ [_], n + 1, _, hkk, by push_cast; rfl, by rw [HV.out, HW.out], HO5.out, rex_app (lo := wr.heap.size) (REX.turn ((((keeps_of_below HBW.out).on _)).alloc _) (fun _ h _ => h) acc xs HX.out) ⟨none, 0, 0, [], rfl, RSP.nil_ _ _ _, rfl⟩ (fun g hg => (HLO.out g hg).2) hsz (fun P => (KeepsOn.refl _ _).alloc _) (by simp) HG5.out HA5.out, ?_, fun x hx => Hok.out x (List.mem_cons_of_mem _ hx), by simp only [List.length_append, List.length_cons, List.length_nil]; omega, Below.grown (((keeps_below HB.out HBW.out).alloc (by omega) _).alloc (by simp; omega) _) HG5.out (by simp; omega) (fun g hg => (HLO.out g hg).1)⟩, ?_⟩
          · have := HR.out; rwa [show o + k * 6 + 6 = o + (k + 1) * 6 by omega] at this
          · simp only [intOf]; omega
      by_cases a8 : act = 8 ∨ L < least
      · have HW := Lib.hid (show wantEv least ⟨act, name, level, msg, args, attrs⟩ = [⟨0, L, decide (least ≤ L), ByteArray.empty, ByteArray.empty, .nil⟩] from by unfold wantEv; rw [if_neg a0, if_neg a1, HL.out, if_pos a8]; rfl)
        have hor : (act = 8) ∨ (¬ act = 8 ∧ L < least) := by
          by_cases h : act = 8
          · exact .inl h
          · exact .inr ⟨h, a8.resolve_left h⟩
        clear a8
        rcases hor with rfl | ⟨a8, hL8⟩
        all_goals
          go_wp2_with (first
            | (go_at_call 80; (refine (CL.out _).mono ?_); rintro e w2 ⟨rfl, hb2⟩; have HB2 := Lib.hid hb2; obtain ⟨hc2, hf2⟩ := bcell hb2; have hs2 := hb2.size; simp only [World.size_alloc] at hs2; have hl2 : wr.heap.size < w2.heap.size := (by omega); have HBW := Lib.hid (show Below wr.heap.size wr w2 from ((Below.refl _ _).alloc (Nat.le_refl _) _).trans (hb2.mono (by simp))); clear hb2)
            | (at_builtin; refine wpList_append_lies _ rfl (.tmp 70) (.tmp 72) 63 rfl w.heap.size 101 i0 _ 6 80 Tryz.underlying63 hi hz0 hz1 hz2 rfl (by decide) _ n xs rfl (((own_below HO.out HBW.out).alloc _).alloc _) ⟨_, 0, none⟩ 1 1 [.int .i64 0, .int .i64 L, .bool (decide (least ≤ L)), .string ⟨#[]⟩, .string ⟨#[]⟩, .slice none 0 0] rfl rfl (by intro j u hj; exact cells_new _ _ _ _ (by simp) j u hj) (by intro u hu; simp at hu; (repeat' (rcases hu with rfl | hu)); all_goals (first | rfl | (subst hu; rfl))) (by decide) (by unfold maxLen; omega) (by omega) (by simp; omega) _ rfl ?_; intro g5 cap5 w5 hown5 hgrow5 hat5 hlt5; have HO5 := Lib.hid hown5; have HG5 := Lib.hid hgrow5; have HA5 := Lib.hid hat5; clear hown5 hgrow5 hat5 hlt5))
          refine ⟨⟨k + 1, r, acc ++ [_], n + 1, _, hkk, by push_cast; rfl, by rw [HV.out, HW.out], HO5.out, rex_app (lo := wr.heap.size) (REX.turn ((((keeps_of_below HBW.out).on _)).alloc _) (fun _ h _ => h) acc xs HX.out) ⟨none, 0, 0, [], rfl, RSP.nil_ _ _ _, rfl⟩ (fun g hg => (HLO.out g hg).2) hsz (fun P => (KeepsOn.refl _ _).alloc _) (by simp) HG5.out HA5.out, ?_, fun x hx => Hok.out x (List.mem_cons_of_mem _ hx), by simp only [List.length_append, List.length_cons, List.length_nil]; omega, Below.grown (((keeps_below HB.out HBW.out).alloc (by omega) _).alloc (by simp; omega) _) HG5.out (by simp; omega) (fun g hg => (HLO.out g hg).1)⟩, ?_⟩
          · have := HR.out; rwa [show o + k * 6 + 6 = o + (k + 1) * 6 by omega] at this
          · simp only [intOf]; omega
      · have h8 : ¬ act = 8 := fun h => a8 (.inl h)
        have hL8 : ¬ L < least := fun h => a8 (.inr h)
        clear a8
        generalize hD : (if act = 3 then vaTidyAll attrs else vaTidyAll (rcRaw args)) = D at CA
        have HW := Lib.hid (show wantEv least ⟨act, name, level, msg, args, attrs⟩ = [⟨0, L, true, ByteArray.empty, ByteArray.empty, .nil⟩, ⟨3, L, false, ByteArray.empty, msg, D⟩] from by unfold wantEv; rw [if_neg a0, if_neg a1, HL.out, if_neg (by rintro (h | h) <;> contradiction), hD]; simp only [evAsk, show decide (least ≤ L) = true from decide_eq_true (by omega)])
        clear hD
        go_wp2_with (first
          | (at_builtin; exact absurd ‹(act == 8) = true ∨ L < least› (by rintro (h | h) <;> first | omega | (simp [h8] at h)))
          | (go_at_call 80; (refine (CL.out _).mono ?_); rintro e w2 ⟨rfl, hb2⟩; have HB2 := Lib.hid hb2; obtain ⟨hc2, hf2⟩ := bcell hb2; have hs2 := hb2.size; simp only [World.size_alloc] at hs2; have hl2 : wr.heap.size < w2.heap.size := (by omega); have HBW := Lib.hid (show Below wr.heap.size wr w2 from ((Below.refl _ _).alloc (Nat.le_refl _) _).trans (hb2.mono (by simp))); clear hb2))
        go_region_held_law (fun w' => w'.cell? ⟨wr.heap.size, 0, none⟩ = some (.int .i64 act) ∧ w'.cell? ⟨wr.heap.size, 1, none⟩ = some (.string name) ∧ w'.cell? ⟨wr.heap.size, 2, none⟩ = some (.int .i64 level) ∧ w'.cell? ⟨wr.heap.size, 3, none⟩ = some (.string msg) ∧ w'.cell? ⟨wr.heap.size, 4, none⟩ = some (.slice Aa la ca) ∧ w'.cell? ⟨wr.heap.size, 5, none⟩ = some (.slice At lt ct) ∧ w'.cell? ⟨w2.heap.size, 0, none⟩ = some (.int .i64 0) ∧ w'.cell? ⟨w2.heap.size, 1, none⟩ = some (.int .i64 L) ∧ w'.cell? ⟨w2.heap.size, 2, none⟩ = some (.bool true) ∧ w'.cell? ⟨w2.heap.size, 3, none⟩ = some (.string ⟨#[]⟩) ∧ w'.cell? ⟨w2.heap.size, 4, none⟩ = some (.string ⟨#[]⟩) ∧ w'.cell? ⟨w2.heap.size, 5, none⟩ = some (.slice none 0 0)) (first | (obtain ⟨s0, s1, s2, s3, s4, s5, s6, s7, s8, s9, s10, s11⟩ := (show w4.cell? ⟨wr.heap.size, 0, none⟩ = some (.int .i64 act) ∧ w4.cell? ⟨wr.heap.size, 1, none⟩ = some (.string name) ∧ w4.cell? ⟨wr.heap.size, 2, none⟩ = some (.int .i64 level) ∧ w4.cell? ⟨wr.heap.size, 3, none⟩ = some (.string msg) ∧ w4.cell? ⟨wr.heap.size, 4, none⟩ = some (.slice Aa la ca) ∧ w4.cell? ⟨wr.heap.size, 5, none⟩ = some (.slice At lt ct) ∧ w4.cell? ⟨w2.heap.size, 0, none⟩ = some (.int .i64 0) ∧ w4.cell? ⟨w2.heap.size, 1, none⟩ = some (.int .i64 L) ∧ w4.cell? ⟨w2.heap.size, 2, none⟩ = some (.bool true) ∧ w4.cell? ⟨w2.heap.size, 3, none⟩ = some (.string ⟨#[]⟩) ∧ w4.cell? ⟨w2.heap.size, 4, none⟩ = some (.string ⟨#[]⟩) ∧ w4.cell? ⟨w2.heap.size, 5, none⟩ = some (.slice none 0 0) from by assumption); exact ⟨(World.cell?_alloc_lt _ _ _ hm4).trans s0, (World.cell?_alloc_lt _ _ _ hm4).trans s1, (World.cell?_alloc_lt _ _ _ hm4).trans s2, (World.cell?_alloc_lt _ _ _ hm4).trans s3, (World.cell?_alloc_lt _ _ _ hm4).trans s4, (World.cell?_alloc_lt _ _ _ hm4).trans s5, (World.cell?_alloc_lt _ _ _ hl4).trans s6, (World.cell?_alloc_lt _ _ _ hl4).trans s7, (World.cell?_alloc_lt _ _ _ hl4).trans s8, (World.cell?_alloc_lt _ _ _ hl4).trans s9, (World.cell?_alloc_lt _ _ _ hl4).trans s10, (World.cell?_alloc_lt _ _ _ hl4).trans s11⟩) | (obtain ⟨s0, s1, s2, s3, s4, s5, s6, s7, s8, s9, s10, s11⟩ := (show (w4.alloc (.cells #[.int .i64 0, .int .i64 L, .bool true, .string ⟨#[]⟩, .string ⟨#[]⟩, .slice none 0 0, .int .i64 3, .int .i64 L, .bool false, .string ⟨#[]⟩, .string msg, .slice A4 l4 c4] 101)).cell? ⟨wr.heap.size, 0, none⟩ = some (.int .i64 act) ∧ (w4.alloc (.cells #[.int .i64 0, .int .i64 L, .bool true, .string ⟨#[]⟩, .string ⟨#[]⟩, .slice none 0 0, .int .i64 3, .int .i64 L, .bool false, .string ⟨#[]⟩, .string msg, .slice A4 l4 c4] 101)).cell? ⟨wr.heap.size, 1, none⟩ = some (.string name) ∧ (w4.alloc (.cells #[.int .i64 0, .int .i64 L, .bool true, .string ⟨#[]⟩, .string ⟨#[]⟩, .slice none 0 0, .int .i64 3, .int .i64 L, .bool false, .string ⟨#[]⟩, .string msg, .slice A4 l4 c4] 101)).cell? ⟨wr.heap.size, 2, none⟩ = some (.int .i64 level) ∧ (w4.alloc (.cells #[.int .i64 0, .int .i64 L, .bool true, .string ⟨#[]⟩, .string ⟨#[]⟩, .slice none 0 0, .int .i64 3, .int .i64 L, .bool false, .string ⟨#[]⟩, .string msg, .slice A4 l4 c4] 101)).cell? ⟨wr.heap.size, 3, none⟩ = some (.string msg) ∧ (w4.alloc (.cells #[.int .i64 0, .int .i64 L, .bool true, .string ⟨#[]⟩, .string ⟨#[]⟩, .slice none 0 0, .int .i64 3, .int .i64 L, .bool false, .string ⟨#[]⟩, .string msg, .slice A4 l4 c4] 101)).cell? ⟨wr.heap.size, 4, none⟩ = some (.slice Aa la ca) ∧ (w4.alloc (.cells #[.int .i64 0, .int .i64 L, .bool true, .string ⟨#[]⟩, .string ⟨#[]⟩, .slice none 0 0, .int .i64 3, .int .i64 L, .bool false, .string ⟨#[]⟩, .string msg, .slice A4 l4 c4] 101)).cell? ⟨wr.heap.size, 5, none⟩ = some (.slice At lt ct) ∧ (w4.alloc (.cells #[.int .i64 0, .int .i64 L, .bool true, .string ⟨#[]⟩, .string ⟨#[]⟩, .slice none 0 0, .int .i64 3, .int .i64 L, .bool false, .string ⟨#[]⟩, .string msg, .slice A4 l4 c4] 101)).cell? ⟨w2.heap.size, 0, none⟩ = some (.int .i64 0) ∧ (w4.alloc (.cells #[.int .i64 0, .int .i64 L, .bool true, .string ⟨#[]⟩, .string ⟨#[]⟩, .slice none 0 0, .int .i64 3, .int .i64 L, .bool false, .string ⟨#[]⟩, .string msg, .slice A4 l4 c4] 101)).cell? ⟨w2.heap.size, 1, none⟩ = some (.int .i64 L) ∧ (w4.alloc (.cells #[.int .i64 0, .int .i64 L, .bool true, .string ⟨#[]⟩, .string ⟨#[]⟩, .slice none 0 0, .int .i64 3, .int .i64 L, .bool false, .string ⟨#[]⟩, .string msg, .slice A4 l4 c4] 101)).cell? ⟨w2.heap.size, 2, none⟩ = some (.bool true) ∧ (w4.alloc (.cells #[.int .i64 0, .int .i64 L, .bool true, .string ⟨#[]⟩, .string ⟨#[]⟩, .slice none 0 0, .int .i64 3, .int .i64 L, .bool false, .string ⟨#[]⟩, .string msg, .slice A4 l4 c4] 101)).cell? ⟨w2.heap.size, 3, none⟩ = some (.string ⟨#[]⟩) ∧ (w4.alloc (.cells #[.int .i64 0, .int .i64 L, .bool true, .string ⟨#[]⟩, .string ⟨#[]⟩, .slice none 0 0, .int .i64 3, .int .i64 L, .bool false, .string ⟨#[]⟩, .string msg, .slice A4 l4 c4] 101)).cell? ⟨w2.heap.size, 4, none⟩ = some (.string ⟨#[]⟩) ∧ (w4.alloc (.cells #[.int .i64 0, .int .i64 L, .bool true, .string ⟨#[]⟩, .string ⟨#[]⟩, .slice none 0 0, .int .i64 3, .int .i64 L, .bool false, .string ⟨#[]⟩, .string msg, .slice A4 l4 c4] 101)).cell? ⟨w2.heap.size, 5, none⟩ = some (.slice none 0 0) from by assumption); exact ⟨(hc5 _).trans s0, (hc5 _).trans s1, (hc5 _).trans s2, (hc5 _).trans s3, (hc5 _).trans s4, (hc5 _).trans s5, (hd5 _).trans s6, (hd5 _).trans s7, (hd5 _).trans s8, (hd5 _).trans s9, (hd5 _).trans s10, (hd5 _).trans s11⟩) | go_keep) (first
          | (refine step_append_lies _ rfl (.tmp 23) (.tmp 31) 63 rfl w.heap.size 101 i0 _ 6 80 Tryz.underlying63 hi hz0 hz1 hz2 rfl (by decide) _ n xs rfl (HO4.out.alloc _) ⟨_, 0, none⟩ 2 2 [.int .i64 0, .int .i64 L, .bool true, .string ⟨#[]⟩, .string ⟨#[]⟩, .slice none 0 0, .int .i64 3, .int .i64 L, .bool false, .string ⟨#[]⟩, .string msg, .slice A4 l4 c4] rfl rfl (by intro j u hj; exact cells_new _ _ _ _ (by simp) j u hj) (by intro u hu; simp at hu; (repeat' (rcases hu with rfl | hu)); all_goals (first | rfl | (subst hu; rfl))) (by decide) (by unfold maxLen; omega) (by omega) (by simp; omega) _ rfl ?_; intro g5 cap5 w5 hown5 hgrow5 hat5 hlt5; have hc5 : ∀ o', w5.cell? ⟨wr.heap.size, o', none⟩ = _ := (fun o' => World.cell?_of_block (a := ⟨wr.heap.size, o', none⟩) (hgrow5.block wr.heap.size (by simp; omega) (fun e => by have := (HLO.out _ e.symm).2; omega))); have hd5 : ∀ o', w5.cell? ⟨w2.heap.size, o', none⟩ = _ := (fun o' => World.cell?_of_block (a := ⟨w2.heap.size, o', none⟩) (hgrow5.block w2.heap.size (by simp; omega) (fun e => by have := (HLO.out _ e.symm).2; omega))); have HO5 := Lib.hid hown5; have HG5 := Lib.hid hgrow5; have HA5 := Lib.hid hat5; clear hown5 hgrow5 hat5 hlt5)
          | (go_at_call 78; refine (CA.out _ (keeps_of_below (HBW.out.alloc (by omega) _).drew)).mono ?_; rintro e w4 ⟨A4, l4, c4, rfl, hr4, hb4⟩; have HR4 := Lib.hid hr4; have hs4 := hb4.size; simp at hs4; have hl4 : w2.heap.size < w4.heap.size := (by omega); have hm4 : wr.heap.size < w4.heap.size := (by omega); have hn4x := Nat.ne_of_lt hl4; have hm4x := Nat.ne_of_lt hm4; have hc4 : ∀ o', w4.cell? ⟨wr.heap.size, o', none⟩ = _ := (fun o' => (bcell hb4).1 _ _ (by simp; omega)); have hd4 : ∀ o', w4.cell? ⟨w2.heap.size, o', none⟩ = _ := (fun o' => (bcell hb4).1 _ _ (by simp)); have HO4 := Lib.hid (own_below (((own_below HO.out HBW.out).alloc _).drew) hb4); have HK4 := Lib.hid (((keeps_of_below HBW.out).on (Beside w.heap.size u5)).alloc _ |>.drew.trans ((keeps_of_below hb4).on _)); have HB4w := Lib.hid (keeps_below ((keeps_below HB.out HBW.out).alloc (by omega) _).drew hb4); clear hr4 hb4))
        simp only [Act.put, List.getElem_toArray, List.getElem_cons_succ, List.getElem_cons_zero, List.setIfInBounds_toArray, List.set_cons_zero, List.set_cons_succ]
        go_wp2
        refine ⟨⟨k + 1, r, acc ++ [_, _], n + 2, _, hkk, by push_cast; rfl, by rw [HV.out, HW.out], HO5.out, rex_app (lo := wr.heap.size) (REX.turn HK4.out (fun _ h _ => h) acc xs HX.out) ⟨none, 0, 0, [.int .i64 3, .int .i64 L, .bool false, .string ⟨#[]⟩, .string msg, .slice A4 l4 c4], rfl, RSP.nil_ _ _ _, A4, l4, c4, [], rfl, HR4.out.turn (Q := fun b => wr.heap.size ≤ b) (KeepsOn.refl _ _) (fun b hb _ => by simp at hb; omega), rfl⟩ (fun g hg => (HLO.out g hg).2) hsz (fun P => (KeepsOn.refl _ _).alloc _) (by simp) HG5.out HA5.out, ?_, fun x hx => Hok.out x (List.mem_cons_of_mem _ hx), by simp only [List.length_append, List.length_cons, List.length_nil]; omega, Below.grown (HB4w.out.alloc (by omega) _) HG5.out (by simp; omega) (fun g hg => (HLO.out g hg).1)⟩, ?_⟩
        · have := HR.out; rwa [show o + k * 6 + 6 = o + (k + 1) * 6 by omega] at this
        · simp only [intOf]; omega

end Go.Proofs.YtihhgnbgejjijaaGreatDoor.Va

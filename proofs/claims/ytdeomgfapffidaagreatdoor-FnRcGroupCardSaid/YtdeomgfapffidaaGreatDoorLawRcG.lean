/- impl.GroupArgs, laws.rcFine and the statement FnRcGroup: the walks. -/
import Derived.Test.YtdeomgfapffidaaGreatDoorRcP
import Derived.Test.YtdeomgfapffidaaGreatDoorArgsOf
import Derived.Test.YtdeomgfapffidaaGreatDoorLawGroups
namespace Go.Proofs.YtdeomgfapffidaaGreatDoor.Va
set_option linter.unusedVariables false
set_option linter.unusedSimpArgs false
open Go Go.RowKit

set_option maxRecDepth 100000 in
set_option maxHeartbeats 1000000 in
/-- impl.GroupArgs. -/
theorem implGroupArgs_any (key : ByteArray) (l : List GArg) (w : World) (A : Option Addr) (len cap : Nat) (hs : argsSize l ≤ 65536) (hg : argsGood l) (hp : pairsOk l) (hw : argsWf l) (hl : RArgS w l A len) :
    Calls Tryz.prog 31 #[.string key, .slice A len cap] w (AtPost key (.mk 8 0 ByteArray.empty .zero (attrsTold (attrsOf none (rcRaw l)).full)) w) := by
  unfold AtPost
  have hok := argsOk_of l hg hs
  have hll := args_len l
  obtain ⟨hrs, hrl⟩ := rcRaw_size l
  have HV := Lib.hid (fun wx (hk : Keeps w wx) => argsOf_any l wx A len cap hok hw (by omega) (hl.keep hk))
  have HG := Lib.hid (fun P wx A1 len1 cap1 h hlc hP => sGroup_any (P := P) key l wx A1 len1 cap1 h hlc hok hw hp (by omega) (by omega) hP)
  have HZ := Lib.hid (show vSizeAll (.cons key (.group (attrsOf none (rcRaw l)).full) .nil) ≤ 700000 by have h1 := vsize_all none (rcRaw l); have h2 := vsize_full (attrsOf none (rcRaw l)); simp only [vSizeAll, vSize]; omega)
  clear hs hw hl hok hll hrs hrl hg hp
  unfold ArgsPost at HV
  unfold SAtPost at HG
  generalize attrsOf none (rcRaw l) = L at HG HZ ⊢
  go_enter Tryz.func31, Tryz.ntmps31
  go_wp2_with (first
    | (go_at_call 55; refine (HV.out _ (keeps_of_below (by repeat' (first | with_reducible assumption | with_reducible exact Below.refl _ _ | with_reducible refine Below.setCell ?_ ?_ _ | with_reducible refine Below.alloc ?_ ?_ _ | with_reducible refine Below.drew ?_ | with_reducible refine below_drewN ?_ _ | omega | (simp; done) | (simp; omega))))).mono ?_; rintro e w1 ⟨A1, len1, cap1, rfl, hlc1, hr1, hb1⟩; have hB1 := keeps_below (show Below w.heap.size w _ from (by repeat' (first | with_reducible assumption | with_reducible exact Below.refl _ _ | with_reducible refine Below.setCell ?_ ?_ _ | with_reducible refine Below.alloc ?_ ?_ _ | with_reducible refine Below.drew ?_ | with_reducible refine below_drewN ?_ _ | omega | (simp; done) | (simp; omega)))) hb1; obtain ⟨hc1, hf1⟩ := bcell hb1; have hz1 := hb1.size; (try simp at hz1); have e10 : w.heap.size < w1.heap.size := (by omega); have HR1 := Lib.hid (And.intro hr1 hlc1); clear hr1 hlc1)
    | (go_at_call 54; refine (HG.out (fun b => w.heap.size + 1 ≤ b) _ A1 len1 cap1 (HR1.out.1.turn (KeepsOn.refl _ _) (fun b hb _ => by simp at hb; omega)) HR1.out.2 (fun b hb => by omega)).mono ?_; rintro e w2 ⟨A2, len2, cap2, rfl, hr2, hb2⟩; have hB2 := keeps_below (show Below w.heap.size w _ from (by repeat' (first | with_reducible assumption | with_reducible exact Below.refl _ _ | with_reducible refine Below.setCell ?_ ?_ _ | with_reducible refine Below.alloc ?_ ?_ _ | with_reducible refine Below.drew ?_ | with_reducible refine below_drewN ?_ _ | omega | (simp; done) | (simp; omega)))) hb2; obtain ⟨hc2, hf2⟩ := bcell hb2; have hz2 := hb2.size; (try simp at hz2); have e20 : w.heap.size < w2.heap.size := (by omega); have HR2 := Lib.hid hr2; clear hr2)
    | (go_at_call 50; refine (attrsTold_any (.cons key (.group L.full) .nil) (fun _ => True) _ (some ⟨w2.heap.size, 0, none⟩) 1 1 HZ.out ⟨rfl, fun _ => ⟨w2.heap.size, 0, rfl, trivial, satt_new HR2.out⟩⟩).mono ?_; rintro e w3 ⟨A3, len3, cap3, rfl, hr3, hb3⟩; have hB3 := keeps_below (show Below w.heap.size w _ from (by repeat' (first | with_reducible assumption | with_reducible exact Below.refl _ _ | with_reducible refine Below.setCell ?_ ?_ _ | with_reducible refine Below.alloc ?_ ?_ _ | with_reducible refine Below.drew ?_ | with_reducible refine below_drewN ?_ _ | omega | (simp; done) | (simp; omega)))) hb3; obtain ⟨hc3, hf3⟩ := bcell hb3; have hz3 := hb3.size; (try simp at hz3); have e30 : w.heap.size < w3.heap.size := (by omega); obtain ⟨b3, o3, A4, len4, cap4, rfl, rfl, k0, k1, k2, k3, k4, k5, k6, k7, hb4, hr4⟩ := satt_told hr3; have HR4 := Lib.hid hr4; clear hr3 hr4))
  refine bodyPost_ret (v := vAt key (.mk 8 0 ByteArray.empty .zero (attrsTold L.full)) A4 len4 cap4) ?_ rfl ⟨A4, len4, cap4, rfl, HR4.out.turn (keepsOn_set8 (fun b hb => by simp at hb; omega) _ _ _ _ _ _ _ _) (fun b hb _ => by simp at hb ⊢; omega), ?_⟩
  · simp [results, Tryz.results31, go_sem, hc1, hf1, e10, hc2, hf2, e20, hc3, hf3, e30, vAt, GTime.zero, Nat.lt_succ_of_lt e20]; (try rfl)
  · exact below_set8 hB3 (by omega) _ _ _ _ _ _ _ _

set_option maxRecDepth 100000 in
set_option maxHeartbeats 400000 in
/-- laws.rcFine. -/
theorem rcFine_any (l : List GArg) (w : World) (A : Option Addr) (len cap : Nat) (hw : argsWf l) (hl : RArgS w l A len) (hlen : len ≤ 140737488355328) :
    Calls Tryz.prog 29 #[.slice A len cap] w (BoolEnd (decide (0 ≤ rcLeft l false 65536)) w) := by
  unfold BoolEnd
  have HL := Lib.hid (fun wx (hk : Keeps w wx) => rcLeft_any l wx 65536 A len cap hw (hl.keep hk) hlen (by omega) (by omega))
  clear hl
  go_enter Tryz.func29, Tryz.ntmps29
  go_wp2_with (go_at_call 53; refine (HL.out _ (keeps_of_below (by repeat' (first | with_reducible assumption | with_reducible exact Below.refl _ _ | with_reducible refine Below.setCell ?_ ?_ _ | with_reducible refine Below.alloc ?_ ?_ _ | with_reducible refine Below.drew ?_ | with_reducible refine below_drewN ?_ _ | omega | (simp; done) | (simp; omega))))).mono ?_; rintro e w2 ⟨rfl, hb2⟩; have hB2 := keeps_below (show Below w.heap.size w _ from (by repeat' (first | with_reducible assumption | with_reducible exact Below.refl _ _ | with_reducible refine Below.setCell ?_ ?_ _ | with_reducible refine Below.alloc ?_ ?_ _ | with_reducible refine Below.drew ?_ | with_reducible refine below_drewN ?_ _ | omega | (simp; done) | (simp; omega)))) hb2)
  go_ret
  exact ⟨rfl, hB2⟩

section
variable (key : ByteArray) (l : List GArg) (w : World) (A : Option Addr) (len cap : Nat)
set_option maxRecDepth 100000 in
set_option maxHeartbeats 400000 in
theorem lawRcG_no1 (h : (2147483647 : Int) < (key.size : Int)) : Calls Tryz.prog 8 #[.string key, .slice A len cap] w (YesEnd w) := by
  unfold YesEnd
  go_enter Tryz.func8, Tryz.ntmps8
  go_wp2
  go_ret
  exact ⟨rfl, Below.refl _ _⟩

set_option maxRecDepth 100000 in
set_option maxHeartbeats 400000 in
theorem lawRcG_no2 (h : ¬ (2147483647 : Int) < (key.size : Int)) (h2 : (2147483647 : Int) < (len : Int)) : Calls Tryz.prog 8 #[.string key, .slice A len cap] w (YesEnd w) := by
  unfold YesEnd
  go_enter Tryz.func8, Tryz.ntmps8
  go_wp2
  go_ret
  exact ⟨rfl, Below.refl _ _⟩

set_option maxRecDepth 100000 in
set_option maxHeartbeats 400000 in
theorem lawRcG_no3 (h : ¬ (2147483647 : Int) < (key.size : Int)) (h2 : ¬ (2147483647 : Int) < (len : Int)) (cF : ∀ wx, Keeps w wx → Calls Tryz.prog 29 #[.slice A len cap] wx (BoolEnd false wx)) : Calls Tryz.prog 8 #[.string key, .slice A len cap] w (YesEnd w) := by
  unfold YesEnd
  have CF := Lib.hid cF
  clear cF
  go_enter Tryz.func8, Tryz.ntmps8
  go_wp2_with (go_at_call 29; (with_reducible refine (CF.out _ (keeps_of_below (by repeat' (first | with_reducible assumption | with_reducible exact Below.refl _ _ | with_reducible refine Below.setCell ?_ ?_ _ | with_reducible refine Below.alloc ?_ ?_ _ | with_reducible refine Below.drew ?_ | with_reducible refine below_drewN ?_ _ | omega | (simp; done) | (simp; omega))))).mono ?_); rintro e w2 ⟨rfl, hb2⟩; have hB2 := keeps_below (show Below w.heap.size w _ from (by repeat' (first | with_reducible assumption | with_reducible exact Below.refl _ _ | with_reducible refine Below.setCell ?_ ?_ _ | with_reducible refine Below.alloc ?_ ?_ _ | with_reducible refine Below.drew ?_ | with_reducible refine below_drewN ?_ _ | omega | (simp; done) | (simp; omega)))) hb2)
  go_ret
  exact ⟨rfl, hB2⟩

set_option maxRecDepth 100000 in
set_option maxHeartbeats 400000 in
theorem lawRcG_no4 (h : ¬ (2147483647 : Int) < (key.size : Int)) (h2 : ¬ (2147483647 : Int) < (len : Int)) (h3 : (65536 : Int) < (key.size : Int)) (cF : ∀ wx, Keeps w wx → Calls Tryz.prog 29 #[.slice A len cap] wx (BoolEnd true wx)) : Calls Tryz.prog 8 #[.string key, .slice A len cap] w (YesEnd w) := by
  unfold YesEnd
  have CF := Lib.hid cF
  clear cF
  go_enter Tryz.func8, Tryz.ntmps8
  go_wp2_with (go_at_call 29; (with_reducible refine (CF.out _ (keeps_of_below (by repeat' (first | with_reducible assumption | with_reducible exact Below.refl _ _ | with_reducible refine Below.setCell ?_ ?_ _ | with_reducible refine Below.alloc ?_ ?_ _ | with_reducible refine Below.drew ?_ | with_reducible refine below_drewN ?_ _ | omega | (simp; done) | (simp; omega))))).mono ?_); rintro e w2 ⟨rfl, hb2⟩; have hB2 := keeps_below (show Below w.heap.size w _ from (by repeat' (first | with_reducible assumption | with_reducible exact Below.refl _ _ | with_reducible refine Below.setCell ?_ ?_ _ | with_reducible refine Below.alloc ?_ ?_ _ | with_reducible refine Below.drew ?_ | with_reducible refine below_drewN ?_ _ | omega | (simp; done) | (simp; omega)))) hb2)
  go_ret
  exact ⟨rfl, hB2⟩

set_option maxRecDepth 100000 in
set_option maxHeartbeats 1000000 in
theorem lawRcG_core (h : ¬ (2147483647 : Int) < (key.size : Int)) (h2 : ¬ (2147483647 : Int) < (len : Int)) (h3 : ¬ (65536 : Int) < (key.size : Int)) (cF : ∀ wx, Keeps w wx → Calls Tryz.prog 29 #[.slice A len cap] wx (BoolEnd true wx))
    (lr lt lm : GAttrs) (cR : ∀ wx, Keeps w wx → Calls Tryz.prog 30 #[.slice A len cap] wx (ListPost lr wx)) (cT : ∀ wx A len cap, RS wx lr A len → Calls Tryz.prog 26 #[.slice A len cap] wx (ListPost lt wx))
    (cG : ∀ wx, Keeps w wx → Calls Tryz.prog 31 #[.string key, .slice A len cap] wx (AtPost key (.mk 8 0 ByteArray.empty .zero lm) wx))
    (cS : ∀ wx A1 A2 l1 c1 l2 c2, RS wx lm A1 l1 → RS wx lt A2 l2 → Calls Tryz.prog 18 #[vVal (.mk 8 0 ByteArray.empty .zero lm) A1 l1 c1, vVal (.mk 8 0 ByteArray.empty .zero lt) A2 l2 c2] wx (YesEnd wx)) :
    Calls Tryz.prog 8 #[.string key, .slice A len cap] w (YesEnd w) := by
  unfold YesEnd
  have CF := Lib.hid cF
  have CR := Lib.hid cR
  have CT := Lib.hid cT
  have CG := Lib.hid cG
  have CS := Lib.hid cS
  clear cF cR cT cG cS
  unfold vVal YesEnd at CS
  unfold AtPost at CG
  unfold ListPost at CT CR
  simp only [kind_mk, n_mk, s_mk, t_mk, l_mk, GTime.zero] at CS CG
  go_enter Tryz.func8, Tryz.ntmps8
  go_wp2_with (first
    | (go_at_call 29; (with_reducible refine (CF.out _ (keeps_of_below (by repeat' (first | with_reducible assumption | with_reducible exact Below.refl _ _ | with_reducible refine Below.setCell ?_ ?_ _ | with_reducible refine Below.alloc ?_ ?_ _ | with_reducible refine Below.drew ?_ | with_reducible refine below_drewN ?_ _ | omega | (simp; done) | (simp; omega))))).mono ?_); rintro e w2 ⟨rfl, hb2⟩; have hB2 := keeps_below (show Below w.heap.size w _ from (by repeat' (first | with_reducible assumption | with_reducible exact Below.refl _ _ | with_reducible refine Below.setCell ?_ ?_ _ | with_reducible refine Below.alloc ?_ ?_ _ | with_reducible refine Below.drew ?_ | with_reducible refine below_drewN ?_ _ | omega | (simp; done) | (simp; omega)))) hb2)
    | (go_at_call 30; (with_reducible refine (CR.out _ (keeps_of_below hB2)).mono ?_); rintro e w1 ⟨A1, l1, c1, rfl, hr1, hb1⟩; have hB1 := keeps_below hB2 hb1; have HR1 := Lib.hid hr1.rs; clear hr1 hb1)
    | (go_at_call 26; (with_reducible refine (CT.out _ _ _ _ HR1.out).mono ?_); rintro e w3 ⟨A3, l3, c3, rfl, hr3, hb3⟩; have hB3 := keeps_below hB1 hb3; have hs3 := hB3.size; have HR3 := Lib.hid hr3.rs; clear hr3 hb3; have HXA := Lib.hid (box_new w3 27 (.mk 8 0 ByteArray.empty .zero lt) A3 l3 c3 _ rfl); simp only [kind_mk, n_mk, s_mk, t_mk, l_mk, GTime.zero] at HXA)
    | (go_at_call 31; (with_reducible refine (CG.out _ (keeps_of_below (by repeat' (first | with_reducible assumption | with_reducible exact Below.refl _ _ | with_reducible refine Below.setCell ?_ ?_ _ | with_reducible refine Below.alloc ?_ ?_ _ | with_reducible refine Below.drew ?_ | with_reducible refine below_drewN ?_ _ | omega | (simp; done) | (simp; omega))))).mono ?_); rintro e w4 ⟨A4, l4, c4, rfl, hr4, hb4⟩; have hK4 := Lib.hid (keeps_of_below hb4); have hB4 := keeps_below (show Below w.heap.size w _ from (by repeat' (first | with_reducible assumption | with_reducible exact Below.refl _ _ | with_reducible refine Below.setCell ?_ ?_ _ | with_reducible refine Below.alloc ?_ ?_ _ | with_reducible refine Below.drew ?_ | with_reducible refine below_drewN ?_ _ | omega | (simp; done) | (simp; omega)))) hb4; have HR4 := Lib.hid hr4.rs; clear hr4 hb4; have HX4 := Lib.hid (HXA.out.keep hK4.out); obtain ⟨q0, q1, q2, q3, q4, q5, q6⟩ := HX4.out; have hl4 : w3.heap.size < w4.heap.size := World.block_lt_of_cell? _ ⟨w3.heap.size, 0, none⟩ q0; unfold vAt)
    | (go_at_call 18; ((with_reducible refine (CS.out _ A4 A3 l4 c4 l3 c3 (HR4.out.keep (keeps_alloc _ _)) (HR3.out.keep (((keeps_alloc _ _).trans hK4.out).trans (keeps_alloc _ _)))).mono ?_); rintro e w8 ⟨rfl, hb8⟩; have hB8 := keeps_below (show Below w.heap.size w _ from (by repeat' (first | with_reducible assumption | with_reducible exact Below.refl _ _ | with_reducible refine Below.setCell ?_ ?_ _ | with_reducible refine Below.alloc ?_ ?_ _ | with_reducible refine Below.drew ?_ | with_reducible refine below_drewN ?_ _ | omega | (simp; done) | (simp; omega)))) hb8)))
  go_ret
  exact ⟨rfl, hB8⟩
end

/-- laws.FnRcGroup. -/
theorem lawRcG_any (key : ByteArray) (l : List GArg) (w : World) (A : Option Addr) (len cap : Nat) (hlen : l.length ≤ 140737488355328) (hlc : len ≤ cap) (hw : argsWf l) (hl : RArgS w l A len) :
    Calls Tryz.prog 8 #[.string key, .slice A len cap] w (YesEnd w) := by
  have hll := hl.1
  by_cases h1 : (2147483647 : Int) < (key.size : Int)
  · exact lawRcG_no1 key w A len cap h1
  by_cases h2 : (2147483647 : Int) < (len : Int)
  · exact lawRcG_no2 key w A len cap h1 h2
  have cF := fun wx (hk : Keeps w wx) => rcFine_any l wx A len cap hw (hl.keep hk) (by omega)
  by_cases h3 : 0 ≤ rcLeft l false 65536
  · rw [decide_eq_true h3] at cF
    by_cases h4 : (65536 : Int) < (key.size : Int)
    · exact lawRcG_no4 key w A len cap h1 h2 h4 cF
    obtain ⟨ga, pa, sa⟩ := rcLeft_good l false 65536 h3
    have sza : argsSize l ≤ 65536 := by omega
    obtain ⟨hrs, hrl⟩ := rcRaw_size l
    have hal := args_len l
    have gr := rcRaw_good l ga
    have wr := rcRaw_wf l hw
    have tg := tidy_gsize_map (rcRaw l)
    generalize hm : rcRaw l = m at *
    refine lawRcG_core key w A len cap h1 h2 h4 cF (tidyMap m) (vaTidyAll m) (attrsTold (attrsOf none m).full) (fun wx hk => by rw [← hm]; exact rcArgs_any l wx A len cap (by omega) (by omega) hlc (hl.keep hk)) ?_ (fun wx hk => by rw [← hm]; exact implGroupArgs_any key l wx A len cap sza ga (pairsT_pairs l pa) hw (hl.keep hk)) ?_
    · intro wx A len cap h
      have := tidyAll_any (tidyMap m) wx A len cap (by omega) h
      rw [tidyAll_map] at this
      exact this
    have hgd : good (.mk 8 0 ByteArray.empty .zero m) := by unfold good; exact ⟨by omega, by omega, fun h => by omega, fun h => by omega, fun h => by omega, fun h => by omega, gr⟩
    have hwd : (GVal.mk 8 0 ByteArray.empty .zero m).wf := by unfold GVal.wf; exact ⟨by omega, by omega, Nat.zero_le _, by decide, by decide, by decide, by omega, wr⟩
    have hP := made_size none _ (.mk 8 0 ByteArray.empty .zero m) (Nat.le_refl _) hwd hgd
    have e1 : told (.group (attrsOf none m).full) = .mk 8 0 ByteArray.empty .zero (attrsTold (attrsOf none m).full) := by simp only [told]
    have e2 : vaTidy (.mk 8 0 ByteArray.empty .zero m) = .mk 8 0 ByteArray.empty .zero (vaTidyAll m) := ptidy_grp _ _ _ _
    have e3 : valueOf none (.mk 8 0 ByteArray.empty .zero m) = .group (attrsOf none m).full := pvalue_grp _ _ _ _ _
    have hz := told_gsize none (.mk 8 0 ByteArray.empty .zero m)
    rw [e3, e1] at hP hz
    rw [e2] at hP
    have hsz : (GVal.mk 8 0 ByteArray.empty .zero m).size = m.size + 1 := by simp only [GVal.size]
    exact fun wx A1 A2 l1 c1 l2 c2 h1 h2 => same_any_v _ (by omega) _ wx A1 A2 l1 c1 l2 c2 hP h1 h2
  · rw [decide_eq_false h3] at cF
    exact lawRcG_no3 key w A len cap h1 h2 cF

end Go.Proofs.YtdeomgfapffidaaGreatDoor.Va

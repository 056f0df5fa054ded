/- The statement FnLgAsked: the walk, and what the guards give. -/
import Derived.Test.YtihhgnbgejjijaaGreatDoorLgR
import Derived.Test.YtihhgnbgejjijaaGreatDoorLgSame
import Derived.Test.YtihhgnbgejjijaaGreatDoorLgPlay
namespace Go.Proofs.YtihhgnbgejjijaaGreatDoor.Va
set_option linter.unusedVariables false
set_option linter.unusedSimpArgs false
open Go Go.RowKit

theorem steps_fine : ∀ (l : List GStep) (left : Int), left ≤ 65536 → stepsWf l → 0 ≤ lgLeft l left → ∀ s ∈ l, playOk s ∧ madeOk s ∧ stepOk s
  | [], _, _, _, _, s, hs => absurd hs (by simp)
  | s :: r, left, hle, hwf, h, t, ht => by
    obtain ⟨⟨w1, w2, w3, w4, w5, w6, w7, w8⟩, hwr⟩ := hwf
    by_cases h1 : left - (1 + s.name.size + s.msg.size) < 0 ∨ s.act < 0 ∨ 8 < s.act
    · rw [lgLeft_no1 h1] at h; omega
    by_cases h2 : rcLeft s.args false (left - (1 + s.name.size + s.msg.size)) < 0
    · rw [lgLeft_no2 h1 h2] at h; omega
    by_cases h3 : vaLeftAll s.attrs 20 (rcLeft s.args false (left - (1 + s.name.size + s.msg.size))) < 0
    · rw [lgLeft_no3 h1 h2 h3] at h; omega
    rw [lgLeft_on h1 h2 h3] at h
    obtain ⟨ga, pa, sa⟩ := rcLeft_good s.args false _ (Int.not_lt.1 h2)
    obtain ⟨gt, st⟩ := leftAll_good s.attrs 20 _ (Int.not_lt.1 h3)
    rcases List.mem_cons.1 ht with rfl | ht
    · have sza : argsSize t.args ≤ 65536 := by omega
      have hal := args_len t.args
      have hat : t.attrs.size ≤ 65536 := by omega
      obtain ⟨hrs, hrl⟩ := rcRaw_size t.args
      have v1 := vsize_all none (rcRaw t.args)
      have v2 := vsize_full (attrsOf none (rcRaw t.args))
      have v3 := vsize_all none t.attrs
      have v4 := vsize_full (attrsOf none t.attrs)
      have hl := len_le_size t.attrs
      have hll : (attrsOf none t.attrs).len = t.attrs.len := len_attrsOf none t.attrs
      exact ⟨⟨sza, by omega, hat⟩, ⟨by omega, by omega, ⟨argsOk_of _ ga sza, w5, pairsT_pairs _ pa, by omega, by omega, by omega⟩, by omega, w7, by omega, by omega⟩, ⟨ga, w5, w6, gt, w7, w8⟩⟩
    · exact steps_fine r _ (by omega) hwr h t ht

theorem madeEv_size (least : Int) (s : GStep) (h : playOk s) : ∀ e ∈ madeEv least s, e.attrs.size ≤ 3000000 := by
  obtain ⟨h1, h2, h3⟩ := h
  have a1 := argsTold_size s.args
  have a2 := told_vsizeAll (attrsOf none (rcRaw s.args))
  have a3 := vsize_all none (rcRaw s.args)
  have a4 := (rcRaw_size s.args).1
  have a5 := told_vsizeAll (attrsOf none s.attrs).full
  have a6 := vsize_full (attrsOf none s.attrs)
  have a7 := vsize_all none s.attrs
  have a0 : GAttrs.nil.size = 0 := rfl
  intro e he
  unfold madeEv evAsk at he
  (repeat' split at he) <;> simp only [List.mem_cons, List.mem_nil_iff, List.not_mem_nil, or_false] at he
  all_goals
    first
    | exact he.elim
    | (rcases he with rfl | rfl <;> simp only <;> omega)
    | (subst he; simp only; omega)
theorem madeEvs_size (least : Int) : ∀ (l : List GStep), (∀ s ∈ l, playOk s) → (∀ e ∈ madeEvs least l, e.attrs.size ≤ 3000000) ∧ (madeEvs least l).length ≤ 2 * l.length
  | [], _ => ⟨fun e he => absurd he (by simp [madeEvs]), by simp [madeEvs]⟩
  | s :: r, h => by
    obtain ⟨i1, i2⟩ := madeEvs_size least r (fun x hx => h x (List.mem_cons_of_mem _ hx))
    have j := madeEv_len least s
    refine ⟨fun e he => ?_, by simp only [madeEvs, List.length_append, List.length_cons]; omega⟩
    rw [madeEvs, List.mem_append] at he
    rcases he with he | he
    · exact madeEv_size least s (h s (List.mem_cons_self ..)) e he
    · exact i1 e he

section
variable (least : Int) (w : World) (A : Option Addr) (len cap : Nat)
set_option maxRecDepth 100000 in
set_option maxHeartbeats 400000 in
theorem lawLgA_no1 (h2 : (2147483647 : Int) < (len : Int)) : Calls Tryz.prog 11 #[.int .i64 least, .slice A len cap] w (YesEnd w) := by
  unfold YesEnd
  go_enter Tryz.func11, Tryz.ntmps11
  go_wp2
  go_ret
  exact ⟨rfl, Below.refl _ _⟩

set_option maxRecDepth 100000 in
set_option maxHeartbeats 400000 in
theorem lawLgA_no2 (h2 : ¬ (2147483647 : Int) < (len : Int)) (cF : ∀ wx, Keeps w wx → Calls Tryz.prog 33 #[.slice A len cap] wx (BoolEnd false wx)) : Calls Tryz.prog 11 #[.int .i64 least, .slice A len cap] w (YesEnd w) := by
  unfold YesEnd
  have CF := Lib.hid cF
  clear cF
  go_enter Tryz.func11, Tryz.ntmps11
  go_wp2_with (go_at_call 33; (with_reducible refine (CF.out _ (keeps_of_below (by repeat' (first | with_reducible assumption | with_reducible exact Below.refl _ _ | with_reducible refine Below.setCell ?_ ?_ _ | with_reducible refine Below.alloc ?_ ?_ _ | with_reducible refine Below.drew ?_ | with_reducible refine below_drewN ?_ _ | omega | (simp; done) | (simp; omega))))).mono ?_); rintro e w2 ⟨rfl, hb2⟩; have hB2 := keeps_below (show Below w.heap.size w _ from (by repeat' (first | with_reducible assumption | with_reducible exact Below.refl _ _ | with_reducible refine Below.setCell ?_ ?_ _ | with_reducible refine Below.alloc ?_ ?_ _ | with_reducible refine Below.drew ?_ | with_reducible refine below_drewN ?_ _ | omega | (simp; done) | (simp; omega)))) hb2)
  go_ret
  exact ⟨rfl, hB2⟩

set_option maxRecDepth 100000 in
set_option maxHeartbeats 1000000 in
theorem lawLgA_core (h2 : ¬ (2147483647 : Int) < (len : Int)) (cF : ∀ wx, Keeps w wx → Calls Tryz.prog 33 #[.slice A len cap] wx (BoolEnd true wx))
    (lw lm : List GEv) (cP : ∀ wx, Keeps w wx → Calls Tryz.prog 34 #[.int .i64 least, .slice A len cap] wx (EvsPost lw wx))
    (cL : ∀ wx, Keeps w wx → Calls Tryz.prog 35 #[.int .i64 least, .slice A len cap] wx (EvsPost lm wx))
    (cS : ∀ wx (P P' : Nat → Prop) A1 A2 l1 c1 l2 c2, REvS P wx lm A1 l1 → REvS P' wx lw A2 l2 → Calls Tryz.prog 29 #[.slice A1 l1 c1, .slice A2 l2 c2] wx (YesEnd wx)) :
    Calls Tryz.prog 11 #[.int .i64 least, .slice A len cap] w (YesEnd w) := by
  unfold YesEnd
  have CF := Lib.hid cF
  have CP := Lib.hid cP
  have CL := Lib.hid cL
  have CS := Lib.hid cS
  clear cF cP cL cS
  unfold YesEnd at CS
  unfold EvsPost at CP CL
  go_enter Tryz.func11, Tryz.ntmps11
  go_wp2_with (first
    | (go_at_call 33; (with_reducible refine (CF.out _ (keeps_of_below (by repeat' (first | with_reducible assumption | with_reducible exact Below.refl _ _ | with_reducible refine Below.setCell ?_ ?_ _ | with_reducible refine Below.alloc ?_ ?_ _ | with_reducible refine Below.drew ?_ | with_reducible refine below_drewN ?_ _ | omega | (simp; done) | (simp; omega))))).mono ?_); rintro e w2 ⟨rfl, hb2⟩; have hB2 := keeps_below (show Below w.heap.size w _ from (by repeat' (first | with_reducible assumption | with_reducible exact Below.refl _ _ | with_reducible refine Below.setCell ?_ ?_ _ | with_reducible refine Below.alloc ?_ ?_ _ | with_reducible refine Below.drew ?_ | with_reducible refine below_drewN ?_ _ | omega | (simp; done) | (simp; omega)))) hb2)
    | (go_at_call 34; (with_reducible refine (CP.out _ (keeps_of_below hB2)).mono ?_); rintro e w3 ⟨A3, l3, c3, rfl, hr3, hb3⟩; have hB3 := keeps_below hB2 hb3; have HR3 := Lib.hid hr3; clear hr3 hb3)
    | (go_at_call 35; (with_reducible refine (CL.out _ (keeps_of_below hB3)).mono ?_); rintro e w4 ⟨A4, l4, c4, rfl, hr4, hb4⟩; have HK4 := Lib.hid (keeps_of_below hb4); have hB4 := keeps_below hB3 hb4; have HR4 := Lib.hid hr4; clear hr4 hb4)
    | (go_at_call 29; ((with_reducible refine (CS.out _ _ _ A4 A3 l4 c4 l3 c3 HR4.out (HR3.out.keep HK4.out)).mono ?_); rintro e w8 ⟨rfl, hb8⟩; have hB8 := keeps_below hB4 hb8)))
  go_ret
  exact ⟨rfl, hB8⟩
end

/-- laws.FnLgAsked. -/
theorem lawLgA_any (least : Int) (l : List GStep) (w : World) (A : Option Addr) (len cap : Nat) (hw : stepsWf l) (hl : RStepS w l A len) :
    Calls Tryz.prog 11 #[.int .i64 least, .slice A len cap] w (YesEnd w) := by
  have hll := hl.1
  by_cases h2 : (2147483647 : Int) < (len : Int)
  · exact lawLgA_no1 least w A len cap h2
  by_cases h4 : (len : Int) ≤ 200
  · have cF := fun wx (hk : Keeps w wx) => lgFine_yes l wx A len cap hw (hl.keep hk) h4
    by_cases h3 : 0 ≤ lgLeft l 65536
    · rw [decide_eq_true h3] at cF
      have hf := steps_fine l 65536 (by omega) hw h3
      obtain ⟨z1, z2⟩ := madeEvs_size least l (fun s hs => (hf s hs).1)
      exact lawLgA_core least w A len cap h2 cF (wantEvs least l) (madeEvs least l)
        (fun wx hk => lgPlay_any least l wx A len cap (hl.keep hk) (fun s hs => (hf s hs).1) (by omega))
        (fun wx hk => logger_any least l wx A len cap (hl.keep hk) (fun s hs => (hf s hs).2.1) (by omega))
        (fun wx P P' A1 A2 l1 c1 l2 c2 h1 h2 => lgSame_any _ _ wx A1 A2 l1 c1 l2 c2 (evs_same least l (fun s hs => (hf s hs).2.2)) h1 h2 z1 (by omega))
    · rw [decide_eq_false h3] at cF
      exact lawLgA_no2 least w A len cap h2 cF
  · exact lawLgA_no2 least w A len cap h2 (fun wx _ => lgFine_no l wx A len cap h4)

end Go.Proofs.YtihhgnbgejjijaaGreatDoor.Va

/- The statement FnRcArgs: the walk. -/
import Derived.Test.YtihhgnbgejjijaaGreatDoorImplArgs
import Derived.Test.YtihhgnbgejjijaaGreatDoorRcFine
namespace Go.Proofs.YtihhgnbgejjijaaGreatDoor.Va
set_option linter.unusedVariables false
set_option linter.unusedSimpArgs false
open Go Go.RowKit

section
variable (l : List GArg) (w : World) (A : Option Addr) (len cap : Nat)
set_option maxRecDepth 100000 in
set_option maxHeartbeats 400000 in
theorem lawRcA_no1 (h2 : (2147483647 : Int) < (len : Int)) : Calls Tryz.prog 3 #[.slice A len cap] w (YesEnd w) := by
  unfold YesEnd
  go_enter Tryz.func3, Tryz.ntmps3
  go_wp2
  go_ret
  exact ⟨rfl, Below.refl _ _⟩

set_option maxRecDepth 100000 in
set_option maxHeartbeats 400000 in
theorem lawRcA_no2 (h2 : ¬ (2147483647 : Int) < (len : Int)) (cF : ∀ wx, Keeps w wx → Calls Tryz.prog 15 #[.slice A len cap] wx (BoolEnd false wx)) : Calls Tryz.prog 3 #[.slice A len cap] w (YesEnd w) := by
  unfold YesEnd
  have CF := Lib.hid cF
  clear cF
  go_enter Tryz.func3, Tryz.ntmps3
  go_wp2_with (go_at_call 15; (with_reducible refine (CF.out _ (keeps_of_below (by repeat' (first | with_reducible assumption | with_reducible exact Below.refl _ _ | with_reducible refine Below.setCell ?_ ?_ _ | with_reducible refine Below.alloc ?_ ?_ _ | with_reducible refine Below.drew ?_ | with_reducible refine below_drewN ?_ _ | omega | (simp; done) | (simp; omega))))).mono ?_); rintro e w2 ⟨rfl, hb2⟩; have hB2 := keeps_below (show Below w.heap.size w _ from (by repeat' (first | with_reducible assumption | with_reducible exact Below.refl _ _ | with_reducible refine Below.setCell ?_ ?_ _ | with_reducible refine Below.alloc ?_ ?_ _ | with_reducible refine Below.drew ?_ | with_reducible refine below_drewN ?_ _ | omega | (simp; done) | (simp; omega)))) hb2)
  go_ret
  exact ⟨rfl, hB2⟩

set_option maxRecDepth 100000 in
set_option maxHeartbeats 1000000 in
theorem lawRcA_core (h2 : ¬ (2147483647 : Int) < (len : Int)) (cF : ∀ wx, Keeps w wx → Calls Tryz.prog 15 #[.slice A len cap] wx (BoolEnd true wx))
    (lr lt lm : GAttrs) (cR : ∀ wx, Keeps w wx → Calls Tryz.prog 17 #[.slice A len cap] wx (ListPost lr wx)) (cT : ∀ wx A len cap, RS wx lr A len → Calls Tryz.prog 16 #[.slice A len cap] wx (ListPost lt wx))
    (cG : ∀ wx, Keeps w wx → Calls Tryz.prog 19 #[.slice A len cap] wx (ListPost lm wx))
    (cS : ∀ wx A1 A2 l1 c1 l2 c2, RS wx lm A1 l1 → RS wx lt A2 l2 → Calls Tryz.prog 18 #[.slice A1 l1 c1, .slice A2 l2 c2] wx (YesEnd wx)) :
    Calls Tryz.prog 3 #[.slice A len cap] w (YesEnd w) := by
  unfold YesEnd
  have CF := Lib.hid cF
  have CR := Lib.hid cR
  have CT := Lib.hid cT
  have CG := Lib.hid cG
  have CS := Lib.hid cS
  clear cF cR cT cG cS
  unfold YesEnd at CS
  unfold ListPost at CT CR CG
  go_enter Tryz.func3, Tryz.ntmps3
  go_wp2_with (first
    | (go_at_call 15; (with_reducible refine (CF.out _ (keeps_of_below (by repeat' (first | with_reducible assumption | with_reducible exact Below.refl _ _ | with_reducible refine Below.setCell ?_ ?_ _ | with_reducible refine Below.alloc ?_ ?_ _ | with_reducible refine Below.drew ?_ | with_reducible refine below_drewN ?_ _ | omega | (simp; done) | (simp; omega))))).mono ?_); rintro e w2 ⟨rfl, hb2⟩; have hB2 := keeps_below (show Below w.heap.size w _ from (by repeat' (first | with_reducible assumption | with_reducible exact Below.refl _ _ | with_reducible refine Below.setCell ?_ ?_ _ | with_reducible refine Below.alloc ?_ ?_ _ | with_reducible refine Below.drew ?_ | with_reducible refine below_drewN ?_ _ | omega | (simp; done) | (simp; omega)))) hb2)
    | (go_at_call 17; (with_reducible refine (CR.out _ (keeps_of_below hB2)).mono ?_); rintro e w1 ⟨A1, l1, c1, rfl, hr1, hb1⟩; have hB1 := keeps_below hB2 hb1; have HR1 := Lib.hid hr1.rs; clear hr1 hb1)
    | (go_at_call 16; (with_reducible refine (CT.out _ _ _ _ HR1.out).mono ?_); rintro e w3 ⟨A3, l3, c3, rfl, hr3, hb3⟩; have hB3 := keeps_below hB1 hb3; have hs3 := hB3.size; have HR3 := Lib.hid hr3.rs; clear hr3 hb3)
    | (go_at_call 19; (with_reducible refine (CG.out _ (keeps_of_below hB3)).mono ?_); rintro e w4 ⟨A4, l4, c4, rfl, hr4, hb4⟩; have hK4 := Lib.hid (keeps_of_below hb4); have hB4 := keeps_below hB3 hb4; have HR4 := Lib.hid hr4.rs; clear hr4 hb4)
    | (go_at_call 18; ((with_reducible refine (CS.out _ A4 A3 l4 c4 l3 c3 HR4.out (HR3.out.keep hK4.out)).mono ?_); rintro e w8 ⟨rfl, hb8⟩; have hB8 := keeps_below hB4 hb8)))
  go_ret
  exact ⟨rfl, hB8⟩
end

/-- laws.FnRcArgs. -/
theorem lawRcA_any (l : List GArg) (w : World) (A : Option Addr) (len cap : Nat) (hlen : l.length ≤ 140737488355328) (hlc : len ≤ cap) (hw : argsWf l) (hl : RArgS w l A len) :
    Calls Tryz.prog 3 #[.slice A len cap] w (YesEnd w) := by
  have hll := hl.1
  by_cases h2 : (2147483647 : Int) < (len : Int)
  · exact lawRcA_no1 w A len cap h2
  have cF := fun wx (hk : Keeps w wx) => rcFine_any l wx A len cap hw (hl.keep hk) (by omega)
  by_cases h3 : 0 ≤ rcLeft l false 65536
  · rw [decide_eq_true h3] at cF
    obtain ⟨ga, pa, sa⟩ := rcLeft_good l false 65536 h3
    have sza : argsSize l ≤ 65536 := by omega
    obtain ⟨hrs, hrl⟩ := rcRaw_size l
    have hal := args_len l
    have tg := tidy_gsize_map (rcRaw l)
    have hz := argsTold_size l
    refine lawRcA_core w A len cap h2 cF (tidyMap (rcRaw l)) (vaTidyAll (rcRaw l)) (argsTold l) (fun wx hk => rcArgs_any l wx A len cap (by omega) (by omega) hlc (hl.keep hk)) ?_ (fun wx hk => implArgs_any l wx A len cap (argsOk_of l ga sza) (by omega) (pairsT_pairs l pa) hw hlc (hl.keep hk)) ?_
    · intro wx A len cap h
      have := tidyAll_any (tidyMap (rcRaw l)) wx A len cap (by omega) h
      rw [tidyAll_map] at this
      exact this
    exact fun wx A1 A2 l1 c1 l2 c2 h1 h2 => same_any_l _ (by omega) _ wx A1 A2 l1 c1 l2 c2 (argsTold_same l ga hw hlen) (by have := h1.1; have := len_le_size (argsTold l); omega) h1 h2
  · rw [decide_eq_false h3] at cF
    exact lawRcA_no2 w A len cap h2 cF

end Go.Proofs.YtihhgnbgejjijaaGreatDoor.Va

/- laws.rcFine: the walk. -/
import Derived.Test.YtihhgnbgejjijaaGreatDoorRcArgs
import Derived.Test.YtihhgnbgejjijaaGreatDoorFits
namespace Go.Proofs.YtihhgnbgejjijaaGreatDoor.Va
set_option linter.unusedVariables false
set_option linter.unusedSimpArgs false
open Go Go.RowKit

set_option maxRecDepth 100000 in
set_option maxHeartbeats 400000 in
/-- laws.rcFine. -/
theorem rcFine_any (l : List GArg) (w : World) (A : Option Addr) (len cap : Nat) (hw : argsWf l) (hl : RArgS w l A len) (hlen : len ≤ 140737488355328) :
    Calls Tryz.prog 15 #[.slice A len cap] w (BoolEnd (decide (0 ≤ rcLeft l false 65536)) w) := by
  unfold BoolEnd
  have HL := Lib.hid (fun wx (hk : Keeps w wx) => rcLeft_any l wx 65536 A len cap hw (hl.keep hk) hlen (by omega) (by omega))
  clear hl
  go_enter Tryz.func15, Tryz.ntmps15
  go_wp2_with (go_at_call 38; refine (HL.out _ (keeps_of_below (by repeat' (first | with_reducible assumption | with_reducible exact Below.refl _ _ | with_reducible refine Below.setCell ?_ ?_ _ | with_reducible refine Below.alloc ?_ ?_ _ | with_reducible refine Below.drew ?_ | with_reducible refine below_drewN ?_ _ | omega | (simp; done) | (simp; omega))))).mono ?_; rintro e w2 ⟨rfl, hb2⟩; have hB2 := keeps_below (show Below w.heap.size w _ from (by repeat' (first | with_reducible assumption | with_reducible exact Below.refl _ _ | with_reducible refine Below.setCell ?_ ?_ _ | with_reducible refine Below.alloc ?_ ?_ _ | with_reducible refine Below.drew ?_ | with_reducible refine below_drewN ?_ _ | omega | (simp; done) | (simp; omega)))) hb2)
  go_ret
  exact ⟨rfl, hB2⟩

end Go.Proofs.YtihhgnbgejjijaaGreatDoor.Va

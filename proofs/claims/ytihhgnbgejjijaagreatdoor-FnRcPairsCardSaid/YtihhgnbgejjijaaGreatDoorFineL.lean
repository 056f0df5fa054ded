/- laws.vaFineAll: the walk. -/
import Derived.Test.YtihhgnbgejjijaaGreatDoorLeft
import Derived.Test.YtihhgnbgejjijaaGreatDoorFits
namespace Go.Proofs.YtihhgnbgejjijaaGreatDoor.Va
set_option linter.unusedVariables false
set_option linter.unusedSimpArgs false
open Go Go.RowKit

/-- laws.vaFineAll. -/
theorem fineAll_any (l : GAttrs) (w : World) (A : Option Addr) (len cap : Nat) (hw : l.wf) (hl : RS w l A len) (hlen : len ≤ 140737488355328) :
    Calls Tryz.prog 20 #[.slice A len cap] w (BoolEnd (decide (0 ≤ vaLeftAll l 20 65536)) w) := by
  unfold BoolEnd
  have HL := Lib.hid (fun wx (hk : Keeps w wx) => leftAll_any l wx 20 65536 A len cap hw (hl.keep hk) hlen (by omega) (by omega) (by omega) (by omega))
  clear hl
  go_enter Tryz.func20, Tryz.ntmps20
  go_wp2_with (go_at_call 61; refine (HL.out _ (keeps_of_below (by repeat' (first | with_reducible assumption | with_reducible exact Below.refl _ _ | with_reducible refine Below.setCell ?_ ?_ _ | with_reducible refine Below.alloc ?_ ?_ _ | with_reducible refine Below.drew ?_ | with_reducible refine below_drewN ?_ _ | omega | (simp; done) | (simp; omega))))).mono ?_; rintro e w2 ⟨rfl, hb2⟩; have hB2 := keeps_below (show Below w.heap.size w _ from (by repeat' (first | with_reducible assumption | with_reducible exact Below.refl _ _ | with_reducible refine Below.setCell ?_ ?_ _ | with_reducible refine Below.alloc ?_ ?_ _ | with_reducible refine Below.drew ?_ | with_reducible refine below_drewN ?_ _ | omega | (simp; done) | (simp; omega)))) hb2)
  go_ret
  exact ⟨rfl, hB2⟩

end Go.Proofs.YtihhgnbgejjijaaGreatDoor.Va

/- The key of the first attribute (spec.vaHead). -/
import Derived.Test.YtihhgnbgejjijaaGreatDoorTidyC
import Derived.Deep.QuietTactic
import Derived.BigQuiet
namespace Go.Proofs.YtihhgnbgejjijaaGreatDoor.Va
set_option linter.unusedVariables false
set_option linter.unusedSimpArgs false
open Go Go.RowKit

theorem head_same (l : GAttrs) (w : World) (A : Option Addr) (len cap : Nat) (h : RS w l A len) :
    Calls Tryz.prog 105 #[.slice A len cap] w fun e w' => e = .returned (.string l.head) ∧ w' = w := by
  obtain ⟨h0, h1⟩ := h
  cases l with
  | nil =>
    have : len = 0 := h0
    subst this
    clear h0 h1
    go_enter Tryz.func105, Tryz.ntmps105
    go_wp2
    go_ret
    exact ⟨rfl, rfl⟩
  | cons k v r =>
    have hp : 0 < len := by simp only [GAttrs.len] at h0; omega
    obtain ⟨b, o, rfl, hr⟩ := h1 hp
    unfold RAs at hr
    have hk := hr.1
    have hne : ¬ (len : Int) = 0 := by omega
    clear h1 hr h0
    go_enter Tryz.func105, Tryz.ntmps105
    go_wp2
    go_ret
    exact ⟨rfl, rfl⟩

theorem head_quiet (l : GAttrs) (w : World) (A : Option Addr) (len cap n : Nat) (h : RS w l A len) :
    Calls Tryz.prog 105 #[.slice A len cap] (w.drewN n) fun e w'' => e = .returned (.string l.head) ∧ ∃ m, w'' = w.drewN m :=
  Calls.quiet_of_same (head_same l _ A len cap (h.keep (keeps_of_below (below_drewN (Below.refl _ _) n))))

theorem head_quiet_eq (l : GAttrs) (h : ByteArray) (hh : l.head = h) (w : World) (A : Option Addr) (len cap n : Nat) (hl : RS w l A len) :
    Calls Tryz.prog 105 #[.slice A len cap] (w.drewN n) fun e w'' => e = .returned (.string h) ∧ ∃ m, w'' = w.drewN m := by
  subst hh
  exact head_quiet l w A len cap n hl

end Go.Proofs.YtihhgnbgejjijaaGreatDoor.Va

/- The names of kinds as the table kindStrings holds them, and Kind.String. -/
import Derived.Test.YtihhgnbgejjijaaGreatDoorMem
namespace Go.Proofs.YtihhgnbgejjijaaGreatDoor.Va
set_option linter.unusedVariables false
set_option linter.unusedSimpArgs false
open Go Go.RowKit

/-- The ten names, as bytes. -/
def names : List (List UInt8) := [[65, 110, 121], [66, 111, 111, 108], [68, 117, 114, 97, 116, 105, 111, 110], [70, 108, 111, 97, 116, 54, 52], [73, 110, 116, 54, 52], [83, 116, 114, 105, 110, 103], [84, 105, 109, 101], [85, 105, 110, 116, 54, 52], [71, 114, 111, 117, 112], [76, 111, 103, 86, 97, 108, 117, 101, 114]]
def nameAt (i : Nat) : Value := .string ⟨(names.getD i []).toArray⟩
/-- The table lies as the program's text lays it. -/
def KTab (w : World) : Prop := ∀ i, i < 10 → w.cell? ⟨1, i, none⟩ = some (nameAt i)
theorem KTab.keep {w w' : World} (h : KTab w) (hk : Keeps w w') : KTab w' := fun i hi => hk.cell (h i hi)

theorem kindStr_any (k : Int) (h0 : 0 ≤ k) (h9 : k ≤ 9) (w : World) (hT : KTab w) : Calls Tryz.prog 140 #[.int .i64 k] w fun e w' => ∃ s : ByteArray, e = .returned (.string s) ∧ s.size ≤ 9 ∧ w' = w := by
  obtain ⟨i, rfl⟩ : ∃ i : Nat, k = i := ⟨k.toNat, by omega⟩
  have hi : i < 10 := by omega
  have hc := hT i hi
  match i, hi with
  | 0, _ | 1, _ | 2, _ | 3, _ | 4, _ | 5, _ | 6, _ | 7, _ | 8, _ | 9, _ =>
    all_goals
      simp only [nameAt, names] at hc
      clear h0 h9 hT
      go_enter Tryz.func140, Tryz.ntmps140
      go_wp2
      go_ret
      exact ⟨_, rfl, by decide, rfl⟩

end Go.Proofs.YtihhgnbgejjijaaGreatDoor.Va

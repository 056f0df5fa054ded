/- slices.Grow of no attributes: the walk. -/
import Derived.Test.YtihhgnbgejjijaaGreatDoorClosA
import Derived.Lib.AppendZerosOnto
import Derived.OwnWalk
namespace Go.Proofs.YtihhgnbgejjijaaGreatDoor.Va
set_option linter.unusedVariables false
set_option linter.unusedSimpArgs false
open Go Go.RowKit

theorem zeros_size {z : Array Value} (hz : z.size = 3) {n G : Nat} (h : n ≤ G) : ((#[] : Array Value) ++ Builtin.zeroCells z n ++ Builtin.zeroCells z (G - n)).size = G * 3 := by
  simp only [Array.size_append, size_zeroCells, hz]
  show 0 + n * 3 + (G - n) * 3 = G * 3
  omega
/-- A row of one's own, without elements. -/
def GrowEnd (n base : Nat) (w : World) (e : Ending) (w' : World) : Prop := ∃ v, e = .returned v ∧ w'.ownsRow base 111 3 v 0 [] ∧ Below w.heap.size w w' ∧ NewRow (.slice none 0 0) v w ∧ (n = 0 → v = .slice none 0 0)

set_option maxRecDepth 100000 in
set_option maxHeartbeats 1000000 in
/-- slices.Grow, of the nil row. -/
theorem grow_nil (n base : Nat) (w : World) (hn : n ≤ 300000) (hb : base ≤ w.heap.size) : Calls Tryz.prog 116 #[.slice none 0 0, .int .i64 n] w (GrowEnd n base w) := by
  obtain ⟨i0, hi, hz0, hz1, hz2⟩ := info_parts infoSAttr
  obtain ⟨Q, hQ⟩ : ∃ Q : Ending → World → Prop, Q = GrowEnd n base w := ⟨_, rfl⟩
  rw [← hQ]
  have HQ := Lib.hid hQ
  clear hQ
  have h0 : (0 : Int) ≤ (n : Int) := by omega
  have h1 : (n : Int) ≤ 300000 := by omega
  by_cases hz : n = 0
  · subst hz
    go_enter Tryz.func116, Tryz.ntmps116
    go_wp2
    rw [HQ.out]
    exact ⟨_, rfl, World.ownsRow_nil _ _ _ _, Below.refl _ _, .inl rfl, fun _ => rfl⟩
  · have hp : (0 : Int) < (n : Int) := by omega
    have hap := Go.Lib.run_append_grow_zeros w 113 3 113 111 i0 _ .i64 .i64 Tryz.underlying113 Tryz.underlying3 hi hz0 none 0 0 [] (by simp [Builtin.firstCells]) n (by omega) (by omega) (by omega) (by omega) (by rw [hz2]; omega) (by rw [hz2]; exact growslice_fits (by omega) (by omega))
    rw [Nat.zero_add] at hap
    have hG := grownCap_ge w n 0 111
    have hGm := grownCap_le_maxLen w n 0 111 (by unfold maxLen; omega)
    generalize grownCap w n 0 111 = G at hap hG hGm
    have hCs := zeros_size (z := (Value.agg #[.string ByteArray.empty, .int .u64 0, .nilIface]).cells) rfl hG
    have hap : (Builtin.append_ #[113, 3] 113 #[.slice none 0 0, .int .i64 n]).run Tryz.prog w = .ok (.slice (some ⟨w.heap.size, 0, none⟩) n G) (w.drew.alloc (.cells ((#[] : Array Value) ++ Builtin.zeroCells (Value.agg #[.string ByteArray.empty, .int .u64 0, .nilIface]).cells n ++ Builtin.zeroCells (Value.agg #[.string ByteArray.empty, .int .u64 0, .nilIface]).cells (G - n)) 111)) := hap
    generalize ((#[] : Array Value) ++ Builtin.zeroCells (Value.agg #[.string ByteArray.empty, .int .u64 0, .nilIface]).cells n ++ Builtin.zeroCells (Value.agg #[.string ByteArray.empty, .int .u64 0, .nilIface]).cells (G - n)) = C at hap hCs
    have hown : ((w.drew).alloc (.cells C 111)).ownsRow base 111 3 (.slice (some ⟨w.heap.size, 0, none⟩) 0 G) 0 [] := World.ownsRow_made w.drew C G hb hGm hCs
    have hB : Below w.heap.size w ((w.drew).alloc (.cells C 111)) := (Below.refl _ _).drew.alloc (Nat.le_refl _) _
    have HO := Lib.hid (And.intro hown hB)
    unfold maxLen at hGm
    generalize ((w.drew).alloc (.cells C 111)) = w2 at hap HO
    have HAP := Lib.hid hap
    clear hap hown hB
    have hz3 : (0 : Int) ≤ (G : Int) := by omega
    go_enter Tryz.func116, Tryz.ntmps116
    go_wp2_with (at_builtin; refine Lib.wpList_append_run _ rfl _ _ _ _ rfl _ _ rfl rfl _ _ HAP.out ?_)
    rw [HQ.out]
    exact ⟨_, rfl, HO.out.1, HO.out.2, .inr ⟨w.heap.size, rfl, Nat.le_refl _⟩, fun h => absurd h hz⟩

end Go.Proofs.YtihhgnbgejjijaaGreatDoor.Va

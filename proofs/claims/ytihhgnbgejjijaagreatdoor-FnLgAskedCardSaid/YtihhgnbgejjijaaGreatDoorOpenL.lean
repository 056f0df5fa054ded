/- A list of Attrs among the arguments, opened. -/
import Derived.Test.YtihhgnbgejjijaaGreatDoorOpen
namespace Go.Proofs.YtihhgnbgejjijaaGreatDoor.Va
open Go Go.RowKit Go.ChangeShapes Go.WideShapes

section
variable {P : Program} {H : Type} {enc : TypeId × Value → H} {w : World} {sp : Nat → Bool} {held : Bool}
variable (hP : ValFacts P)
include hP

/-- A list of Attrs among the arguments. -/
theorem open_attrs {r : Reach} {b0 : Nat} {v : Value} {d : DataW H} {ps : List MemPlace} (hval : Value.okWide P w r b0 24 v) (h : DataW.Trod enc P w 0 sp held 24 v d ps)
    (hw : ∀ n ∈ d.weights P 24, n ≤ reachBytes) : ∃ (l : GAttrs) (A : Option Addr) (len cap : Nat), v = .slice A len cap ∧ l.wf ∧ l.len ≤ 140737488355328 ∧ RS w l A len := by
  obtain ⟨a0, len0, cap0, rfl⟩ := okWide_slice hP.uAttrs hval
  obtain ⟨fuel, hf⟩ := h
  have hf : DataW.trod enc P w 0 sp held fuel 24 [Value.slice a0 len0 cap0] = some (d, ps) := hf
  rcases DataW.trod_slice hP.uAttrs hf with ⟨e4, _⟩ | ⟨a, len, cap, elems, rest, m, rfl, e4, ex, _, hlc, hcm, hle, hel, _, _⟩
  · obtain ⟨rfl, rfl, rfl⟩ : a0 = none ∧ len0 = 0 ∧ cap0 = 0 := by simpa using e4
    exact ⟨.nil, none, 0, 0, rfl, by unfold GAttrs.wf; trivial, by simp [GAttrs.len], RS.nil_ _ _⟩
  · obtain ⟨rfl, rfl, rfl⟩ : a0 = some a ∧ len0 = len ∧ cap0 = cap := by simpa using e4
    obtain rfl : d = _ := (Prod.mk.inj ex).1
    rw [weights_slice hP.uAttrs, hP.bAttr] at hw
    obtain ⟨l, lwf, llen, lras⟩ := open_elems hP hle hel (fun y hy k hk => hw k (by
      refine List.mem_cons_of_mem _ (List.mem_append_left _ (weightsAll_mem (List.mem_map.2 ⟨y, hy, rfl⟩) k hk)))) (fun m' cs x _ => open_valL hP m' cs x) len0 (Nat.le_refl _)
    have hln := hw _ (List.mem_cons_self ..)
    have hln := reach_le hln
    rw [List.length_map, hle] at hln
    rw [Nat.sub_self, Nat.zero_mul, Nat.add_zero] at lras
    refine ⟨l, some a, len0, cap0, rfl, lwf, by omega, llen.symm, fun hp => ⟨a.block, a.off, ?_, lras⟩⟩
    have h := hel 0 hp
    rw [List.getElem?_eq_getElem (by omega), Option.bind_eq_some_iff] at h
    obtain ⟨cs, hcs, _⟩ := h
    rw [hP.cAttr, Nat.zero_mul] at hcs
    have h2 := (World.cells?_some hcs).2.2 0 (by omega)
    have h3 := (World.cells?_some hcs).2.1
    rw [List.getElem?_eq_getElem (by omega)] at h2
    have := World.cell?_spot h2
    obtain ⟨ab, ao, asp⟩ := a
    have : asp = none := by simpa [Addr.add] using this
    rw [this]
end
end Go.Proofs.YtihhgnbgejjijaaGreatDoor.Va

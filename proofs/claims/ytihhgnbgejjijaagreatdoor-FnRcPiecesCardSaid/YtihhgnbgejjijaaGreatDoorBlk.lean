/- Single blocks from world to world. -/
import Derived.Laws.OwnMore
import Derived.Deep.AppendLies
import Derived.Test.YtihhgnbgejjijaaGreatDoorClosA
namespace Go.Proofs.YtihhgnbgejjijaaGreatDoor.Va
set_option linter.unusedVariables false
set_option linter.unusedSimpArgs false
open Go Go.RowKit

theorem new_blk {w : World} {g : Nat} {o : Obj} (h : g = w.heap.size) : (w.alloc o).heap[g]? = some o := by subst h; exact heap_alloc_new w o
theorem old_blk {w : World} {g : Nat} {o : Obj} (h : g < w.heap.size) : (w.alloc o).heap[g]? = w.heap[g]? := by
  show (w.heap.push o)[g]? = w.heap[g]?
  rw [Array.getElem?_push, if_neg (Nat.ne_of_lt h)]
theorem own_ge {base g n c : Nat} (hb : base ≤ g) : ∀ k, (Value.slice (some ⟨g, 0, none⟩) n c).ownBlock = some k → base ≤ k := fun k h => by
  have : some g = some k := h
  injection this with this
  omega
theorem drew_blk (w : World) (g : Nat) : w.drew.heap[g]? = w.heap[g]? := rfl
theorem own_to {w w' : World} {base : Nat} {e : TypeId} {size : Nat} {v : Value} {n : Nat} {xs : List Value} (h : w.ownsRow base e size v n xs) (hk : ∀ g, v.ownBlock = some g → base ≤ g ∧ g < w.heap.size → w'.heap[g]? = w.heap[g]?) : w'.ownsRow base e size v n xs := by
  have hl := h.lt
  refine ⟨h.1, ?_⟩
  rcases h.2 with hn | ⟨g, cap, cur, rfl, hbg, hgg, rest⟩
  · exact .inl hn
  · exact .inr ⟨g, cap, cur, rfl, hbg, (hk g rfl (hl g rfl)).trans hgg, rest⟩
theorem own_lit {w : World} {base g : Nat} {e : TypeId} {size : Nat} (hb : base ≤ g) (hg : g = w.heap.size) : (w.alloc (.cells #[] e)).ownsRow base e size (.slice (some ⟨g, 0, none⟩) 0 0) 0 [] := by
  subst hg
  exact World.ownsRow_lit w #[] 0 hb (Nat.zero_le _) (by simp)
theorem own_blk0 {w : World} {base g : Nat} {e : TypeId} {size : Nat} (hb : base ≤ g) (h : w.heap[g]? = some (.cells #[] e (0, 0))) : w.ownsRow base e size (.slice (some ⟨g, 0, none⟩) 0 0) 0 [] :=
  ⟨by simp, .inr ⟨g, 0, #[], rfl, hb, h, Nat.le_refl _, Nat.zero_le _, by simp, by simp⟩⟩
theorem ne_at {g g1 n c k : Nat} {v : Value} (h : v.ownBlock = (Value.slice (some ⟨g1, 0, none⟩) n c).ownBlock ∨ v.ownBlock = some k) (h1 : g ≠ g1) (h2 : g ≠ k) : some g ≠ v.ownBlock := fun e => by
  rcases h with h | h
  · rw [← e] at h
    have h : some g = some g1 := h
    injection h with h
    exact h1 h
  · rw [← e] at h
    injection h with h
    exact h2 h
theorem ne_lt {g base m : Nat} {v : Value} (h : ∀ k, v.ownBlock = some k → base ≤ k ∧ k < m) (hg : m ≤ g) : some g ≠ v.ownBlock := fun e => by
  have := (h g e.symm).2
  omega
theorem add_at (g j : Nat) : (⟨g, 0, none⟩ : Addr).add j = ⟨g, j, none⟩ := by unfold Addr.add; split <;> simp_all

end Go.Proofs.YtihhgnbgejjijaaGreatDoor.Va

/- Equality of floats, by their bits: it does not hang on the order, and carries over a middle one. Plain Lean. -/
import Derived.Test.YtcgdnjigocknbaaDoorEq
namespace Go.Proofs.YtcgdnjigocknbaaDoor.Va
open Go Go.RowKit Ieee

theorem signed_add (s : Bool) (m k e : Nat) : Ieee.signed s m (k + e) = Ieee.signed s m k * ((2 ^ e : Nat) : Int) := by
  unfold Ieee.signed
  rw [Nat.shiftLeft_eq, Nat.shiftLeft_eq, Nat.pow_add, ← Nat.mul_assoc]
  cases s <;> simp [Int.neg_mul]

/-- The numbers are the same. -/
def SameNum (s : Bool) (m : Nat) (i : Int) (t : Bool) (n : Nat) (j : Int) : Prop := ∀ L : Int, L ≤ i → L ≤ j → Ieee.signed s m (i - L).toNat = Ieee.signed t n (j - L).toNat

theorem same_of_base {s t : Bool} {m n : Nat} {i j : Int} (h : Ieee.signed s m (i - min i j).toNat = Ieee.signed t n (j - min i j).toNat) : SameNum s m i t n j := by
  intro L h1 h2
  have e1 : (i - L).toNat = (i - min i j).toNat + (min i j - L).toNat := by omega
  have e2 : (j - L).toNat = (j - min i j).toNat + (min i j - L).toNat := by omega
  rw [e1, e2, signed_add, signed_add, h]
theorem base_of_same {s t : Bool} {m n : Nat} {i j L : Int} (h1 : L ≤ i) (h2 : L ≤ j) (h : Ieee.signed s m (i - L).toNat = Ieee.signed t n (j - L).toNat) : Ieee.signed s m (i - min i j).toNat = Ieee.signed t n (j - min i j).toNat := by
  have e1 : (i - L).toNat = (i - min i j).toNat + (min i j - L).toNat := by omega
  have e2 : (j - L).toNat = (j - min i j).toNat + (min i j - L).toNat := by omega
  rw [e1, e2, signed_add, signed_add] at h
  exact Int.eq_of_mul_eq_mul_right (by have : 0 < 2 ^ (min i j - L).toNat := Nat.two_pow_pos _; omega) h

/-- What two data that are equal are. -/
def DEq : Datum → Datum → Prop
  | .infinity s, .infinity t => s = t
  | .number s m i, .number t n j => SameNum s m i t n j
  | _, _ => False

theorem order_eq (d d' : Datum) : d.order d' = some .eq ↔ DEq d d' := by
  cases d with
  | nan s f => cases d' <;> simp [Datum.order, DEq]
  | infinity s =>
    cases d' with
    | nan t f => simp [Datum.order, DEq]
    | infinity t => cases s <;> cases t <;> simp [Datum.order, DEq] <;> decide
    | number t n j => cases s <;> simp [Datum.order, DEq]
  | number s m i =>
    cases d' with
    | nan t f => simp [Datum.order, DEq]
    | infinity t => cases t <;> simp [Datum.order, DEq]
    | number t n j =>
      simp only [Datum.order, DEq, Option.some.injEq]
      constructor
      · intro h
        exact same_of_base (Std.LawfulEqOrd.eq_of_compare h)
      · intro h
        have := h (min i j) (by omega) (by omega)
        rw [this]
        exact Std.ReflCmp.compare_self

theorem deq_symm {d d' : Datum} (h : DEq d d') : DEq d' d := by
  cases d <;> cases d' <;> first | exact h.elim | skip
  · intro L h1 h2; exact (h L h2 h1).symm
  · exact Eq.symm h
theorem deq_trans {d d' d'' : Datum} (h : DEq d d') (h' : DEq d' d'') : DEq d d'' := by
  cases d <;> cases d' <;> first | exact h.elim | skip
  · cases d'' <;> first | exact h'.elim | skip
    rename_i s m i t n j u p k
    have h1 := h (min (min i j) k) (by omega) (by omega)
    have h2 := h' (min (min i j) k) (by omega) (by omega)
    exact same_of_base (base_of_same (by omega) (by omega) (h1.trans h2))
  · cases d'' <;> first | exact h'.elim | skip
    exact Eq.trans h h'

theorem feq_iff (n m : Int) : feq n m = true ↔ DEq (Ieee.double.read n.toNat) (Ieee.double.read m.toNat) := by
  unfold feq Go.Op.floatEq
  rw [beq_iff_eq]
  exact order_eq _ _
theorem feq_symm (n m : Int) : feq n m = feq m n := by
  rw [Bool.eq_iff_iff, feq_iff, feq_iff]
  exact ⟨deq_symm, deq_symm⟩
theorem feq_trans {n m k : Int} (h : feq n m = true) (h' : feq m k = true) : feq n k = true := by
  rw [feq_iff] at *
  exact deq_trans h h'

end Go.Proofs.YtcgdnjigocknbaaDoor.Va

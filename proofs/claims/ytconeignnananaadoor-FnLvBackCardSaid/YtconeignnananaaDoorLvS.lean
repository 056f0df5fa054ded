/- Plain laws: a name of a level in letters of any case and an offset are read as the level. -/
import Derived.Test.YtconeignnananaaDoorLvQ
namespace Go.Proofs.YtconeignnananaaDoor.Lv
set_option linter.unusedVariables false
set_option linter.unusedSimpArgs false
open Go Go.Lib Go.RowKit

theorem pu_append : ∀ (l : List UInt8) (acc a : Nat) (d : UInt8), parseUint10 acc l = .ok a → parseUint10 acc (l ++ [d]) = parseUint10 a [d]
  | [], acc, a, d, h => by
    simp only [parseUint10] at h
    injection h with h
    subst h
    rfl
  | c :: r, acc, a, d, h => by
    rw [List.cons_append]
    simp only [parseUint10] at h
    rw [parseUint10]
    split at h
    · rename_i hd
      rw [if_pos hd]
      split at h
      · cases h
      · rename_i h1
        rw [if_neg h1]
        split at h
        · cases h
        · rename_i h2
          rw [if_neg h2]
          exact pu_append r _ a d h
    · cases h

theorem dig (k : Nat) (h : k < 10) : (UInt8.ofNat (48 + k)).toNat = 48 + k := by
  rw [UInt8.toNat_ofNat']; omega

theorem pu_digits (u : Nat) (h : u < 18446744073709551616) : parseUint10 0 (decDigits u) = .ok u := by
  induction u using Nat.strongRecOn with
  | _ u ih =>
    rw [decDigits]
    split
    · rename_i h10
      simp only [parseUint10, dig u h10]
      rw [if_pos (by omega), if_neg (by omega), if_neg (by omega)]
      congr 1
      omega
    · rename_i h10
      rw [pu_append _ 0 (u / 10) _ (ih (u / 10) (by omega) (by omega))]
      simp only [parseUint10, dig (u % 10) (by omega)]
      rw [if_pos (by omega), if_neg (by omega), if_neg (by omega)]
      congr 1
      omega

theorem digits_ne (u : Nat) : decDigits u ≠ [] := by
  rw [decDigits]
  split <;> simp

theorem num_plus (u : Nat) (h : u ≤ 9223372036854775807) : numOf (43 :: decDigits u) = some (u : Int) := by
  unfold numOf atoiAll
  simp only
  rw [if_pos (by decide)]
  unfold parseMag
  rw [if_neg (digits_ne u), pu_digits u (by omega)]
  simp only
  rw [if_neg (by omega), if_neg (by intro hh; exact absurd hh.1 (by decide))]
  rw [if_neg (by decide)]
theorem num_minus (u : Nat) (h : u ≤ 9223372036854775808) : numOf (45 :: decDigits u) = some (-(u : Int)) := by
  unfold numOf atoiAll
  simp only
  rw [if_pos (by decide)]
  unfold parseMag
  rw [if_neg (digits_ne u), pu_digits u (by omega)]
  simp only
  rw [if_neg (by intro hh; exact hh.1 (by decide)), if_neg (by omega)]
  rw [if_pos (by decide)]

/-- The text of an offset. -/
def offText (v : Int) : List UInt8 := if 0 ≤ v then 43 :: itoa v else itoa v
theorem num_off (v : Int) (h0 : -9223372036854775808 ≤ v) (h1 : v ≤ 9223372036854775807) : numOf (offText v) = some v := by
  unfold offText itoa
  by_cases h : 0 ≤ v
  · rw [if_pos h, if_neg (by omega), num_plus _ (by omega)]
    congr 1
    omega
  · rw [if_neg h, if_pos (by omega), num_minus _ (by omega)]
    congr 1
    omega
theorem off_head (v : Int) : ∃ c r, offText v = c :: r ∧ isSign c = true := by
  unfold offText itoa
  by_cases h : 0 ≤ v
  · rw [if_pos h]; exact ⟨43, _, rfl, by decide⟩
  · rw [if_neg h, if_pos (by omega)]; exact ⟨45, _, rfl, by decide⟩
theorem off_mem (v : Int) : ∀ b ∈ offText v, isSign b = true ∨ 48 ≤ b.toNat ∧ b.toNat ≤ 57 := by
  intro b hb
  unfold offText at hb
  split at hb
  · rcases List.mem_cons.1 hb with rfl | hb
    · exact .inl (by decide)
    · rcases itoa_mem v b hb with h | h
      · left; unfold isSign; rw [h]; decide
      · exact .inr h
  · rcases itoa_mem v b hb with h | h
    · left; unfold isSign; rw [h]; decide
    · exact .inr h

theorem sign_front : ∀ (l r : List UInt8), (∀ b ∈ l, isSign b = false) → signAt (l ++ r) = l.length + signAt r
  | [], r, _ => by simp
  | b :: l, r, h => by
    have h1 := h b (List.mem_cons_self ..)
    have h2 := sign_front l r (fun c hc => h c (List.mem_cons_of_mem _ hc))
    simp only [List.cons_append, signAt, h1, Bool.false_eq_true, if_false, h2, List.length_cons]
    omega

/-- A name and an offset. -/
theorem level_off (l : List UInt8) (b v : Int) (hb : baseUp (l.map upA) = some b) (h0 : -9223372036854775808 ≤ v) (h1 : v ≤ 9223372036854775807) : levelOf (l ++ offText v) = some (IntKind.i64.wrap (b + v)) := by
  have hl : ∀ c ∈ l, isSign c = false := fun c hc => by
    have := upA_letter (baseUp_letters hb (upA c) (List.mem_map_of_mem hc))
    unfold isLetter at this
    unfold isSign
    simp only [Bool.or_eq_true, Bool.and_eq_true, decide_eq_true_eq] at this
    simp only [Bool.or_eq_false_iff, beq_eq_false_iff_ne]
    omega
  obtain ⟨c, r, hc, hs⟩ := off_head v
  have hsg : signAt (l ++ offText v) = l.length := by
    rw [sign_front l _ hl, hc]
    simp [signAt, hs]
  unfold levelOf
  rw [hsg, List.take_left, List.drop_left]
  unfold baseOf
  rw [hb]
  simp only
  rw [if_neg (by rw [hc]; simp), num_off v h0 h1]
  rfl
/-- A name alone. -/
theorem level_name (l : List UInt8) (b : Int) (hb : baseUp (l.map upA) = some b) : levelOf l = some b := by
  have hl : ∀ c ∈ l, isSign c = false := fun c hc => by
    have := upA_letter (baseUp_letters hb (upA c) (List.mem_map_of_mem hc))
    unfold isLetter at this
    unfold isSign
    simp only [Bool.or_eq_true, Bool.and_eq_true, decide_eq_true_eq] at this
    simp only [Bool.or_eq_false_iff, beq_eq_false_iff_ne]
    omega
  have hsg : signAt l = l.length := by
    have := sign_front l [] hl
    rw [List.append_nil] at this
    simpa [signAt] using this
  unfold levelOf
  rw [hsg, List.take_length]
  unfold baseOf
  rw [hb]
  simp

end Go.Proofs.YtconeignnananaaDoor.Lv

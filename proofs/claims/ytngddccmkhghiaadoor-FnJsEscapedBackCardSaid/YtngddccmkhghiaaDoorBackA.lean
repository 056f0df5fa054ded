/- Plain laws: what stands for a text between quotation marks, read again, is the text coerced to UTF-8; what stands for two texts behind one another. No program in sight. -/
import Derived.Test.YtngddccmkhghiaaDoorEsc
import Derived.Lib.ValidLaws
import Derived.Lib.DecodeN
namespace Go.Proofs.YtngddccmkhghiaaDoor.Esc
set_option linter.unusedVariables false
set_option linter.unusedSimpArgs false
open Go Go.Lib

/-- The number of a hexadecimal digit's byte is below 16. -/
theorem hexD_lt (n : Nat) (h : n < 16) : (48 ≤ (hexD n).toNat ∧ (hexD n).toNat ≤ 57 ∧ (hexD n).toNat = 48 + n) ∨ (97 ≤ (hexD n).toNat ∧ (hexD n).toNat ≤ 102 ∧ (hexD n).toNat = 87 + n) := by
  have : n = 0 ∨ n = 1 ∨ n = 2 ∨ n = 3 ∨ n = 4 ∨ n = 5 ∨ n = 6 ∨ n = 7 ∨ n = 8 ∨ n = 9 ∨ n = 10 ∨ n = 11 ∨ n = 12 ∨ n = 13 ∨ n = 14 ∨ n = 15 := by omega
  rcases this with rfl | rfl | rfl | rfl | rfl | rfl | rfl | rfl | rfl | rfl | rfl | rfl | rfl | rfl | rfl | rfl <;> decide

/-- What stands behind a backslash, and the rune that it tells. -/
def Told (q : List UInt8) (c : Nat) : Prop :=
  (q = [34] ∧ c = 34) ∨ (q = [92] ∧ c = 92) ∨ (q = [110] ∧ c = 10) ∨ (q = [114] ∧ c = 13) ∨ (q = [116] ∧ c = 9) ∨
  ∃ d0 d1 d2 d3 : Nat, d0 < 16 ∧ d1 < 16 ∧ d2 < 16 ∧ d3 < 16 ∧ q = [117, hexD d0, hexD d1, hexD d2, hexD d3] ∧ c = d0 * 4096 + d1 * 256 + d2 * 16 + d3 ∧ c < 55296

theorem told_len {q : List UInt8} {c : Nat} (h : Told q c) : 1 ≤ q.length ∧ q.length ≤ 5 := by
  rcases h with ⟨rfl, _⟩ | ⟨rfl, _⟩ | ⟨rfl, _⟩ | ⟨rfl, _⟩ | ⟨rfl, _⟩ | ⟨d0, d1, d2, d3, _, _, _, _, rfl, _⟩ <;> simp

/-- A rune by its own bytes. -/
def Plain (p : List UInt8) : Prop := 1 ≤ p.length ∧ p.length ≤ 4 ∧ ∃ c', 32 ≤ c' ∧ c' ≠ 34 ∧ c' ≠ 92 ∧ ¬ (c' = 65533 ∧ p.length = 1) ∧ ∀ t, decodeL (p ++ t) = (c', p.length)

/-- What is decoded of valid bytes does not hang on what follows. -/
theorem decode_prefix (l : List UInt8) (hne : l ≠ []) (hv : ¬ ((decodeL l).1 = 65533 ∧ (decodeL l).2 = 1)) (t : List UInt8) : decodeL (l.take (decodeL l).2 ++ t) = decodeL l := by
  have hl : 0 < l.length := List.length_pos_iff.2 hne
  have hle := decodeL_le l hne
  have e1 := decodeL_N l
  have key : ∀ (n' : Nat) (b0 b1 b2 b3 b1' b2' b3' n : Nat), decodeN n b0 b1 b2 b3 = decodeL l → (decodeL l).2 ≤ n' → (1 < (decodeL l).2 → b1' = b1) → (2 < (decodeL l).2 → b2' = b2) → (3 < (decodeL l).2 → b3' = b3) → decodeN n' b0 b1' b2' b3' = decodeL l := by
    intro n' b0 b1 b2 b3 b1' b2' b3' n h hn h1 h2 h3
    rw [← h] at hv hn h1 h2 h3 ⊢
    clear h e1 hle
    rcases decodeN_shape n b0 b1 b2 b3 with ⟨c, e⟩ | ⟨c1, c2, c3, cv, e⟩ | ⟨c1, c2, c3, c4, cv, cs, e⟩ | ⟨c1, c2, c3, c4, c5, cv, cw, e⟩ | e
    · rw [e]; unfold decodeN; rw [if_pos c]
    · rw [e] at h1 hn ⊢
      obtain rfl := h1 (by simp)
      simp only at hn
      unfold decodeN
      rw [if_neg (by omega), if_pos (by omega), if_pos (by omega)]
    · rw [e] at h1 h2 hn ⊢
      obtain rfl := h1 (by simp)
      obtain rfl := h2 (by simp)
      simp only at hn
      unfold decodeN
      rw [if_neg (by omega), if_neg (by omega), if_pos (by omega), if_pos (by omega)]
    · rw [e] at h1 h2 h3 hn ⊢
      obtain rfl := h1 (by simp)
      obtain rfl := h2 (by simp)
      obtain rfl := h3 (by simp)
      simp only at hn
      unfold decodeN
      rw [if_neg (by omega), if_neg (by omega), if_neg (by omega), if_pos (by omega), if_pos (by omega)]
    · rw [e] at hv
      exact absurd ⟨rfl, rfl⟩ hv
  have hw := decodeL_width l
  have g : ∀ j, j < (decodeL l).2 → (l.take (decodeL l).2 ++ t).getD j 0 = l.getD j 0 := by
    intro j hj
    rw [List.getD_eq_getElem?_getD, List.getD_eq_getElem?_getD, List.getElem?_append_left (by rw [List.length_take]; omega), List.getElem?_take_of_lt hj]
  rw [decodeL_N (l.take (decodeL l).2 ++ t), g 0 (by omega)]
  refine key _ _ (l.getD 1 0).toNat (l.getD 2 0).toNat (l.getD 3 0).toNat _ _ _ l.length e1.symm ?_ (fun h => ?_) (fun h => ?_) (fun h => ?_)
  · rw [List.length_append, List.length_take]; omega
  · rw [g 1 h]
  · rw [g 2 h]
  · rw [g 3 h]

theorem encode_lo {c : Nat} (h : c < 128) : encodeRune (c : Int) = [c.toUInt8] := by
  unfold encodeRune
  rw [encodeRuneZ_one (by omega) (by omega)]
  simp

/-- What stands for the first rune: behind a backslash, or by itself. -/
theorem piece_cases (l : List UInt8) (hne : l ≠ []) :
    (∃ q, piece (decodeL l).1 (l.take (decodeL l).2) = 92 :: q ∧ Told q (decodeL l).1) ∨
    (Plain (piece (decodeL l).1 (l.take (decodeL l).2)) ∧ piece (decodeL l).1 (l.take (decodeL l).2) = encodeRune ((decodeL l).1 : Int)) := by
  have hw := decodeL_width l
  have hle := decodeL_le l hne
  have h4 : (decodeL l).2 ≤ 4 := by
    rw [decodeL_N]
    unfold decodeN
    repeat' split
    all_goals simp
  by_cases h0 : (decodeL l).1 = 34
  · left; refine ⟨[34], ?_, .inl ⟨rfl, h0⟩⟩; unfold piece; rw [if_pos h0]
  by_cases h1 : (decodeL l).1 = 92
  · left; refine ⟨[92], ?_, .inr (.inl ⟨rfl, h1⟩)⟩; unfold piece; rw [if_neg h0, if_pos h1]
  by_cases h2 : (decodeL l).1 = 10
  · left; refine ⟨[110], ?_, .inr (.inr (.inl ⟨rfl, h2⟩))⟩; unfold piece; rw [if_neg h0, if_neg h1, if_pos h2]
  by_cases h3 : (decodeL l).1 = 13
  · left; refine ⟨[114], ?_, .inr (.inr (.inr (.inl ⟨rfl, h3⟩)))⟩; unfold piece; rw [if_neg h0, if_neg h1, if_neg h2, if_pos h3]
  by_cases h5 : (decodeL l).1 = 9
  · left; refine ⟨[116], ?_, .inr (.inr (.inr (.inr (.inl ⟨rfl, h5⟩))))⟩; unfold piece; rw [if_neg h0, if_neg h1, if_neg h2, if_neg h3, if_pos h5]
  by_cases h6 : (decodeL l).1 < 32
  · left
    refine ⟨[117, 48, 48, hexD ((decodeL l).1 / 16), hexD ((decodeL l).1 % 16)], ?_, .inr (.inr (.inr (.inr (.inr ⟨0, 0, (decodeL l).1 / 16, (decodeL l).1 % 16, by omega, by omega, by omega, by omega, rfl, by omega, by omega⟩))))⟩
    unfold piece; rw [if_neg h0, if_neg h1, if_neg h2, if_neg h3, if_neg h5, if_pos h6]
  by_cases h7 : (decodeL l).1 = 8232
  · left
    refine ⟨[117, 50, 48, 50, 56], ?_, .inr (.inr (.inr (.inr (.inr ⟨2, 0, 2, 8, by omega, by omega, by omega, by omega, rfl, by omega, by omega⟩))))⟩
    unfold piece; rw [if_neg h0, if_neg h1, if_neg h2, if_neg h3, if_neg h5, if_neg h6, if_pos h7]
  by_cases h8 : (decodeL l).1 = 8233
  · left
    refine ⟨[117, 50, 48, 50, 57], ?_, .inr (.inr (.inr (.inr (.inr ⟨2, 0, 2, 9, by omega, by omega, by omega, by omega, rfl, by omega, by omega⟩))))⟩
    unfold piece; rw [if_neg h0, if_neg h1, if_neg h2, if_neg h3, if_neg h5, if_neg h6, if_neg h7, if_pos h8]
  right
  by_cases h9 : (decodeL l).1 = 65533
  · have e : piece (decodeL l).1 (l.take (decodeL l).2) = [239, 191, 189] := by
      unfold piece; rw [if_neg h0, if_neg h1, if_neg h2, if_neg h3, if_neg h5, if_neg h6, if_neg h7, if_neg h8, if_pos h9]
    rw [e, h9]
    refine ⟨⟨by decide, by decide, 65533, by decide, by decide, by decide, by decide, fun t => ?_⟩, by decide⟩
    rw [decodeL_N]
    show decodeN _ 239 191 189 _ = _
    unfold decodeN
    simp
  · have e : piece (decodeL l).1 (l.take (decodeL l).2) = l.take (decodeL l).2 := by
      unfold piece; rw [if_neg h0, if_neg h1, if_neg h2, if_neg h3, if_neg h5, if_neg h6, if_neg h7, if_neg h8, if_neg h9]
    have hv : ¬ ((decodeL l).1 = 65533 ∧ (decodeL l).2 = 1) := fun h => h9 h.1
    have hlen : (l.take (decodeL l).2).length = (decodeL l).2 := by rw [List.length_take]; omega
    rw [e]
    refine ⟨⟨by omega, by omega, (decodeL l).1, by omega, h0, h1, fun h => h9 h.1, fun t => ?_⟩, (encode_decode l hne hv).symm⟩
    rw [decode_prefix l hne hv t, hlen]

/-- A text as UTF-8. -/
def co (l : List UInt8) : List UInt8 := mapD (fun c => c) l
theorem co_nil : co [] = [] := rfl
theorem co_step (l : List UInt8) (hne : l ≠ []) : co l = encodeRune ((decodeL l).1 : Int) ++ co (l.drop (decodeL l).2) := by
  unfold co
  rw [mapD_step _ l hne, if_pos (by omega)]

/-- Of two texts of which the first is UTF-8, what stands for both is what stands for each. -/
theorem esc_append (n : Nat) : ∀ (l t : List UInt8), l.length ≤ n → validD l = true → esc (l ++ t) = esc l ++ esc t := by
  induction n with
  | zero =>
    intro l t h _
    have : l = [] := List.eq_nil_of_length_eq_zero (by omega)
    subst this
    rfl
  | succ n ih =>
    intro l t h hv
    by_cases hne : l = []
    · subst hne; rfl
    · rw [validD_step l hne] at hv
      by_cases hb : (decodeL l).1 = 65533 ∧ (decodeL l).2 = 1
      · rw [if_pos hb] at hv; cases hv
      · rw [if_neg hb] at hv
        have hw := decodeL_width l
        have hle := decodeL_le l hne
        have hl : 0 < l.length := List.length_pos_iff.2 hne
        have hd : decodeL (l ++ t) = decodeL l := by
          have := decode_prefix l hne hb (l.drop (decodeL l).2 ++ t)
          rwa [← List.append_assoc, List.take_append_drop] at this
        rw [esc_step (l ++ t) (by simp [hne]), hd, esc_step l hne]
        rw [List.take_append_of_le_length hle, List.drop_append_of_le_length hle, ih _ t (by rw [List.length_drop]; omega) hv, List.append_assoc]

end Go.Proofs.YtngddccmkhghiaaDoor.Esc

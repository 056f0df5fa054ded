/- Plain laws on what stands for a text between quotation marks in JSON, rune by rune. No program in sight. -/
import Derived.Lib.MapLaws
import Derived.Lib.TrimAscii
import Derived.Shelf.Unicode.DecodeSlow
namespace Go.Proofs.YtngddccmkhghiaaDoor.Esc
open Go Go.Lib

/-- A hexadecimal digit. -/
def hexD (n : Nat) : UInt8 := ([48, 49, 50, 51, 52, 53, 54, 55, 56, 57, 97, 98, 99, 100, 101, 102] : List UInt8).getD n 0

/-- What stands for a rune: its number, and the bytes that it was decoded from. -/
def piece (c : Nat) (raw : List UInt8) : List UInt8 :=
  if c = 34 then [92, 34]
  else if c = 92 then [92, 92]
  else if c = 10 then [92, 110]
  else if c = 13 then [92, 114]
  else if c = 9 then [92, 116]
  else if c < 32 then [92, 117, 48, 48, hexD (c / 16), hexD (c % 16)]
  else if c = 8232 then [92, 117, 50, 48, 50, 56]
  else if c = 8233 then [92, 117, 50, 48, 50, 57]
  else if c = 65533 then [239, 191, 189]
  else raw

def escGo : Nat → List UInt8 → List UInt8
  | 0, _ => []
  | f + 1, l => if l = [] then [] else piece (decodeL l).1 (l.take (decodeL l).2) ++ escGo f (l.drop (decodeL l).2)
def esc (l : List UInt8) : List UInt8 := escGo l.length l

theorem escGo_nil (f : Nat) : escGo f [] = [] := by cases f <;> simp [escGo]

theorem escGo_more (f : Nat) : ∀ (g : Nat) (l : List UInt8), l.length ≤ f → l.length ≤ g → escGo f l = escGo g l := by
  induction f with
  | zero =>
    intro g l hf _
    have : l = [] := List.eq_nil_of_length_eq_zero (by omega)
    subst this
    rw [escGo_nil, escGo_nil]
  | succ f ih =>
    intro g l hf hg
    by_cases hl : l = []
    · subst hl; rw [escGo_nil, escGo_nil]
    · have hp : 0 < l.length := List.length_pos_iff.2 hl
      cases g with
      | zero => omega
      | succ g =>
        have hw := decodeL_width l
        simp only [escGo, if_neg hl]
        rw [ih g (l.drop (decodeL l).2) (by simp; omega) (by simp; omega)]

theorem esc_nil : esc [] = [] := rfl

/-- The first rune, and the rest. -/
theorem esc_step (l : List UInt8) (hl : l ≠ []) : esc l = piece (decodeL l).1 (l.take (decodeL l).2) ++ esc (l.drop (decodeL l).2) := by
  have hp : 0 < l.length := List.length_pos_iff.2 hl
  have hw := decodeL_width l
  unfold esc
  obtain ⟨n, hn⟩ : ∃ n, l.length = n + 1 := ⟨l.length - 1, by omega⟩
  rw [hn]
  simp only [escGo, if_neg hl]
  rw [escGo_more n (l.drop (decodeL l).2).length _ (by simp; omega) (Nat.le_refl _)]

theorem piece_len (c : Nat) (raw : List UInt8) : (piece c raw).length ≤ 6 + raw.length := by
  unfold piece
  repeat' split
  all_goals (simp <;> omega)

theorem escGo_len (f : Nat) : ∀ (l : List UInt8), (escGo f l).length ≤ 7 * l.length := by
  induction f with
  | zero => intro l; simp [escGo]
  | succ f ih =>
    intro l
    by_cases hl : l = []
    · subst hl; simp [escGo_nil]
    · simp only [escGo, if_neg hl, List.length_append]
      have h1 := piece_len (decodeL l).1 (l.take (decodeL l).2)
      have h2 := ih (l.drop (decodeL l).2)
      have hw := decodeL_width l
      have hle := decodeL_le l hl
      simp only [List.length_take, List.length_drop] at h1 h2
      omega
theorem esc_len (l : List UInt8) : (esc l).length ≤ 7 * l.length := escGo_len _ l

/-- At a place in a text: the rune that stands there, and what stands for the rest. -/
theorem esc_at (s : ByteArray) (k : Nat) (hk : k < s.size) :
    esc (s.data.toList.drop k) = piece (Utf8.decode s k).1 ((s.data.toList.drop k).take (Utf8.decode s k).2) ++ esc (s.data.toList.drop (k + (Utf8.decode s k).2)) := by
  have hne : s.data.toList.drop k ≠ [] := by
    intro h
    have := congrArg List.length h
    rw [List.length_drop, ← size_eq] at this
    simp at this
    omega
  rw [esc_step _ hne, decodeL_drop, List.drop_drop]

theorem decode_le (s : ByteArray) (k : Nat) (hk : k < s.size) : 1 ≤ (Utf8.decode s k).2 ∧ k + (Utf8.decode s k).2 ≤ s.size ∧ (Utf8.decode s k).2 ≤ 4 := by
  have hne : s.data.toList.drop k ≠ [] := by
    intro h
    have := congrArg List.length h
    rw [List.length_drop, ← size_eq] at this
    simp at this
    omega
  have h1 := decodeL_width (s.data.toList.drop k)
  have h2 := decodeL_le _ hne
  rw [decodeL_drop] at h1 h2
  rw [List.length_drop, ← size_eq] at h2
  refine ⟨h1, by omega, ?_⟩
  rw [decode_at]
  unfold decodeN
  repeat' split
  all_goals simp

/-- An ASCII byte is a rune. -/
theorem decode_ascii (s : ByteArray) (k : Nat) (hk : k < s.size) (h : s[k].toNat < 128) : Utf8.decode s k = (s[k].toNat, 1) := by
  have e : s.get! k = s[k] := Utf8W.get!_of_lt s k hk
  rw [decode_at, e]
  exact decodeN_ascii _ _ _ _ _ h

/-- No rune below 128 stands for a byte from 128 on. -/
theorem decode_high (s : ByteArray) (k : Nat) (hk : k < s.size) (h : 128 ≤ s[k].toNat) : 128 ≤ (Utf8.decode s k).1 := by
  have e : s.get! k = s[k] := Utf8W.get!_of_lt s k hk
  rw [decode_at, e]
  unfold decodeN
  repeat' split
  all_goals (simp <;> omega)

end Go.Proofs.YtngddccmkhghiaaDoor.Esc

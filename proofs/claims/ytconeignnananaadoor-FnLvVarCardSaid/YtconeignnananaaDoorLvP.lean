/- Plain laws on the texts of levels: no program in sight. -/
import Derived.Lib.AtoiAll
import Derived.Lib.MapU
namespace Go.Proofs.YtconeignnananaaDoor.Lv
open Go Go.Lib

/-- Is a byte a sign. -/
def isSign (b : UInt8) : Bool := b.toNat == 43 || b.toNat == 45
/-- The place of the first sign; the length, if there is none. -/
def signAt : List UInt8 → Nat
  | [] => 0
  | b :: r => if isSign b then 0 else signAt r + 1
theorem signAt_le : ∀ l : List UInt8, signAt l ≤ l.length
  | [] => Nat.le_refl _
  | b :: r => by
    have := signAt_le r
    simp only [signAt, List.length_cons]
    split <;> omega
theorem signAt_before : ∀ (l : List UInt8) (j : Nat), j < signAt l → ∃ b, l[j]? = some b ∧ isSign b = false
  | [], j, h => by simp [signAt] at h
  | b :: r, j, h => by
    simp only [signAt] at h
    by_cases hb : isSign b = true
    · rw [if_pos hb] at h; omega
    · rw [if_neg hb] at h
      cases j with
      | zero => exact ⟨b, rfl, by simpa using hb⟩
      | succ j =>
        obtain ⟨c, h1, h2⟩ := signAt_before r j (by omega)
        exact ⟨c, by simpa using h1, h2⟩
theorem signAt_there : ∀ l : List UInt8, signAt l < l.length → ∃ b, l[signAt l]? = some b ∧ isSign b = true
  | [], h => by simp [signAt] at h
  | b :: r, h => by
    simp only [signAt, List.length_cons] at h ⊢
    by_cases hb : isSign b = true
    · rw [if_pos hb]; exact ⟨b, rfl, hb⟩
    · rw [if_neg hb] at h ⊢
      obtain ⟨c, h1, h2⟩ := signAt_there r (by omega)
      exact ⟨c, by simpa using h1, h2⟩

/-- A letter of ASCII as a capital one. -/
def upA (b : UInt8) : UInt8 := if 97 ≤ b.toNat ∧ b.toNat ≤ 122 then UInt8.ofNat (b.toNat - 32) else b
def isLetter (b : UInt8) : Bool := (65 ≤ b.toNat && b.toNat ≤ 90) || (97 ≤ b.toNat && b.toNat ≤ 122)

/-- The level of a name in capital letters. -/
def baseUp (l : List UInt8) : Option Int :=
  if l = [68, 69, 66, 85, 71] then some (-4) else if l = [73, 78, 70, 79] then some 0 else if l = [87, 65, 82, 78] then some 4 else if l = [69, 82, 82, 79, 82] then some 8 else none
def baseOf (l : List UInt8) : Option Int := baseUp (l.map upA)

theorem baseUp_letters {l : List UInt8} {v : Int} (h : baseUp l = some v) : ∀ b ∈ l, 65 ≤ b.toNat ∧ b.toNat ≤ 90 := by
  unfold baseUp at h
  split at h
  · subst l; decide
  · split at h
    · subst l; decide
    · split at h
      · subst l; decide
      · split at h
        · subst l; decide
        · cases h

theorem upA_letter {b : UInt8} (h : 65 ≤ (upA b).toNat ∧ (upA b).toNat ≤ 90) : isLetter b = true := by
  unfold upA at h
  unfold isLetter
  simp only [Bool.or_eq_true, Bool.and_eq_true, decide_eq_true_eq]
  split at h
  · right; assumption
  · left; exact h

/-- A name with a character that is no letter is none. -/
theorem baseOf_none {l : List UInt8} (b : UInt8) (hb : b ∈ l) (h : isLetter b = false) : baseOf l = none := by
  cases e : baseOf l with
  | none => rfl
  | some v =>
    have := baseUp_letters e (upA b) (List.mem_map_of_mem hb)
    rw [upA_letter this] at h
    cases h

/-- The number of digits, as package spec reads it. -/
def numGo (neg : Bool) : Nat → List UInt8 → Option Nat
  | acc, [] => some acc
  | acc, c :: r =>
    if 48 ≤ c.toNat ∧ c.toNat ≤ 57 ∧ acc ≤ 922337203685477580 ∧ acc * 10 + (c.toNat - 48) ≤ 9223372036854775808 ∧ ¬ (acc * 10 + (c.toNat - 48) = 9223372036854775808 ∧ neg = false) then numGo neg (acc * 10 + (c.toNat - 48)) r else none

def fits (neg : Bool) (u : Nat) : Prop := u < 9223372036854775808 ∨ (u = 9223372036854775808 ∧ neg = true)

theorem mono10 : ∀ (l : List UInt8) (acc u : Nat), parseUint10 acc l = .ok u → acc ≤ u
  | [], acc, u, h => by simp only [parseUint10] at h; injection h with h; omega
  | c :: r, acc, u, h => by
    simp only [parseUint10] at h
    split at h
    · split at h
      · cases h
      · split at h
        · cases h
        · have := mono10 r _ u h; omega
    · cases h

theorem numGo_some (neg : Bool) : ∀ (l : List UInt8) (acc u : Nat), fits neg acc → (numGo neg acc l = some u ↔ parseUint10 acc l = .ok u ∧ fits neg u)
  | [], acc, u, h => by
    simp only [numGo, parseUint10, Option.some.injEq, NumEnd.ok.injEq]
    constructor
    · rintro rfl; exact ⟨rfl, h⟩
    · exact fun h => h.1
  | c :: r, acc, u, h => by
    simp only [numGo, parseUint10]
    by_cases hd : 48 ≤ c.toNat ∧ c.toNat ≤ 57
    · by_cases hx : acc ≤ 922337203685477580 ∧ acc * 10 + (c.toNat - 48) ≤ 9223372036854775808 ∧ ¬ (acc * 10 + (c.toNat - 48) = 9223372036854775808 ∧ neg = false)
      · rw [if_pos ⟨hd.1, hd.2, hx⟩, if_pos hd, if_neg (by omega), if_neg (by omega)]
        refine numGo_some neg r _ u ?_
        unfold fits
        by_cases e : acc * 10 + (c.toNat - 48) = 9223372036854775808
        · right
          refine ⟨e, ?_⟩
          have := hx.2.2
          cases neg with
          | true => rfl
          | false => exact absurd ⟨e, rfl⟩ this
        · left; omega
      · rw [if_neg (fun hh => hx hh.2.2), if_pos hd]
        constructor
        · intro hh; cases hh
        · rintro ⟨h1, h2⟩
          exfalso
          split at h1
          · cases h1
          · split at h1
            · cases h1
            · have hm := mono10 r _ u h1
              apply hx
              unfold fits at h2
              refine ⟨by omega, by omega, fun hh => ?_⟩
              rcases h2 with h2 | h2
              · omega
              · rw [hh.2] at h2; cases h2.2
    · rw [if_neg (fun hh => hd ⟨hh.1, hh.2.1⟩), if_neg hd]
      constructor
      · intro hh; cases hh
      · rintro ⟨h1, _⟩; cases h1

/-- The number of a sign and digits. -/
def numOf (l : List UInt8) : Option Int := match atoiAll l with | .ok v => some v | _ => none
/-- The same, as package spec reads it. -/
def numSpec : List UInt8 → Option Int
  | [] => none
  | c :: r => if r = [] then none else (numGo (c.toNat == 45) 0 r).map fun (u : Nat) => if c.toNat = 45 then -(u : Int) else (u : Int)

theorem numSpec_eq (c : UInt8) (r : List UInt8) (hc : isSign c = true) : numSpec (c :: r) = numOf (c :: r) := by
  unfold numSpec numOf atoiAll
  simp only [isSign, Bool.or_eq_true, beq_iff_eq] at hc
  dsimp only
  rw [if_pos hc]
  unfold parseMag
  by_cases hr : r = []
  · rw [if_pos hr, if_pos hr]
  · rw [if_neg hr, if_neg hr]
    have key := numGo_some (c.toNat == 45) r 0
    cases e : numGo (c.toNat == 45) 0 r with
    | some u =>
      obtain ⟨h1, h2⟩ := (key u (by unfold fits; left; decide)).1 e
      rw [h1]
      simp only [Option.map_some]
      unfold fits at h2
      by_cases hn : c.toNat = 45
      · have : ¬ (¬ c.toNat = 45 ∧ 9223372036854775808 ≤ u) := fun hh => hh.1 hn
        have h3 : ¬ (c.toNat = 45 ∧ 9223372036854775808 < u) := by rcases h2 with h2 | h2 <;> omega
        rw [if_neg this, if_neg h3]
      · have hb : (c.toNat == 45) = false := by simpa using hn
        rw [hb] at h2
        have : u < 9223372036854775808 := by rcases h2 with h2 | h2; · exact h2
                                             · cases h2.2
        have h3 : ¬ (¬ c.toNat = 45 ∧ 9223372036854775808 ≤ u) := by omega
        have h4 : ¬ (c.toNat = 45 ∧ 9223372036854775808 < u) := by omega
        rw [if_neg h3, if_neg h4]
    | none =>
      simp only [Option.map_none]
      cases e2 : parseUint10 0 r with
      | ok u =>
        have hnf : ¬ fits (c.toNat == 45) u := by
          intro hf
          have := (key u (by unfold fits; left; decide)).2 ⟨e2, hf⟩
          rw [e] at this
          cases this
        unfold fits at hnf
        by_cases hn : c.toNat = 45
        · have hb : (c.toNat == 45) = true := by simpa using hn
          rw [hb] at hnf
          have : 9223372036854775808 < u := by
            by_cases h1 : u < 9223372036854775808
            · exact absurd (.inl h1) hnf
            · by_cases h2 : u = 9223372036854775808
              · exact absurd (.inr ⟨h2, rfl⟩) hnf
              · omega
          have a : ¬ (¬ c.toNat = 45 ∧ 9223372036854775808 ≤ u) := fun hh => hh.1 hn
          simp only [a, if_false]
          rw [if_pos ⟨hn, this⟩]
        · have : 9223372036854775808 ≤ u := by
            by_cases h1 : u < 9223372036854775808
            · exact absurd (.inl h1) hnf
            · omega
          simp only []
          rw [if_pos ⟨hn, this⟩]
      | range => rfl
      | _ => rfl

/-- The level of a text. -/
def levelOf (l : List UInt8) : Option Int :=
  match baseOf (l.take (signAt l)) with
  | none => none
  | some b => if signAt l = l.length then some b else (numOf (l.drop (signAt l))).map fun v => IntKind.i64.wrap (b + v)

end Go.Proofs.YtconeignnananaaDoor.Lv

/- The name of a level: spec.LvName and Level.String give the same text: the walks. -/
import Derived.Test.YtconeignnananaaDoorShelf
import Derived.WalkKit
import Derived.WalkSpells
import Derived.Lib.AppendStr
import Derived.Lib.Hide
import Derived.Lib.ItoaLen
import Derived.Lib.AppendIntMem
import Derived.Laws.Concat
namespace Go.Proofs.YtconeignnananaaDoor.Lv
set_option linter.unusedVariables false
set_option linter.unusedSimpArgs false
open Go Go.Lib Go.RowKit

theorem bcell {W w1 : World} (hb : Below W.heap.size W w1) : (∀ b o, b < W.heap.size → w1.cell? ⟨b, o, none⟩ = W.cell? ⟨b, o, none⟩) ∧ (∀ b o, b < W.heap.size → w1.frozen? ⟨b, o, none⟩ = W.frozen? ⟨b, o, none⟩) :=
  ⟨fun b o h => hb.cell (p := ⟨b, o, none⟩) h, fun b o h => hb.frozen (p := ⟨b, o, none⟩) h⟩
theorem below_then {a w w1 : World} (h : Below a.heap.size a w) (hb : Below w.heap.size w w1) : Below a.heap.size a w1 := h.trans (hb.mono h.size)

/-- The table of the powers of ten lies as the program's text lays it. -/
def Pow (w : World) : Prop := TabIs Tryd.prog w "internal/strconv.uint64pow10" .u64 pow10Tab
theorem Pow.on {w w' : World} (h : Pow w) (hb : Below w.heap.size w w') : Pow w' := tabBelow_of_tabIs h w' hb

def itoaB (n : Int) : ByteArray := ⟨(itoa n).toArray⟩
theorem itoaB_size (n : Int) (h0 : -9223372036854775808 ≤ n) (h1 : n ≤ 9223372036854775807) : (itoaB n).size ≤ 21 := by
  have := itoa_length_le n h0 h1
  unfold itoaB
  rw [size_eq]
  exact this

theorem below_grow {w : World} (k : Nat) (os : Array Obj) : Below w.heap.size w (Sort.grow (w.drewN k) os) := by
  refine ⟨rfl, rfl, rfl, by simp [Sort.grow], fun i hi => ?_⟩
  show ((w.drewN k).heap ++ os)[i]? = w.heap[i]?
  rw [Array.getElem?_append_left (by simpa using hi)]
  rfl

theorem itoa_any (n : Int) (h0 : -9223372036854775808 ≤ n) (h1 : n ≤ 9223372036854775807) (w : World) (hp : Pow w) :
    Calls Tryd.prog 9 #[.int .i64 n] w fun e w' => e = .returned (.string (itoaB n)) ∧ Below w.heap.size w w' := by
  refine (Tryd.strconv_Itoa n h0 h1 w hp).mono ?_
  rintro e w' ⟨rfl, k, os, rfl⟩
  exact ⟨rfl, below_grow k os⟩

/-- A name, and how much a level is above it. -/
def strB (base : ByteArray) (v : Int) : ByteArray := if v = 0 then base else if 0 < v then base ++ (⟨#[43]⟩ ++ itoaB v) else base ++ itoaB v
def lvName (n : Int) : ByteArray :=
  if n < 0 then strB ⟨#[68, 69, 66, 85, 71]⟩ (n + 4) else if n < 4 then strB ⟨#[73, 78, 70, 79]⟩ n else if n < 8 then strB ⟨#[87, 65, 82, 78]⟩ (n - 4) else strB ⟨#[69, 82, 82, 79, 82]⟩ (n - 8)

theorem strB_zero (base : ByteArray) : strB base 0 = base := by unfold strB; rw [if_pos rfl]
theorem strB_pos (base : ByteArray) {v : Int} (h : 0 < v) : strB base v = base ++ (⟨#[43]⟩ ++ itoaB v) := by unfold strB; rw [if_neg (by omega), if_pos h]
theorem strB_neg (base : ByteArray) {v : Int} (h : v < 0) : strB base v = base ++ itoaB v := by unfold strB; rw [if_neg (by omega), if_neg (by omega)]

theorem ret_str {a b : ByteArray} (h : a = b) : Ending.returned (.string a) = .returned (.string b) := by rw [h]

set_option maxRecDepth 100000 in
set_option maxHeartbeats 1000000 in
/-- The closure of Level.String. -/
theorem str_any (base : ByteArray) (v : Int) (hb : base.size ≤ 100) (h0 : -9223372036854775808 ≤ v) (h1 : v ≤ 9223372036854775807) (w : World) (hp : Pow w) :
    Calls Tryd.prog 42 #[.string base, .int .i64 v] w fun e w' => e = .returned (.string (strB base v)) ∧ Below w.heap.size w w' := by
  have hs := itoaB_size v h0 h1
  have HP := Lib.hid hp
  clear hp
  by_cases hz : v = 0
  · subst hz
    rw [strB_zero]
    go_enter Tryd.func42, Tryd.ntmps42
    go_wp2_with fail
    go_ret
    exact ⟨rfl, Below.refl _ _⟩
  · by_cases hpos : 0 < v
    · rw [strB_pos _ hpos]
      go_enter Tryd.func42, Tryd.ntmps42
      go_wp2_with (go_at_call 9; refine (itoa_any v h0 h1 _ HP.out).mono ?_; rintro e w1 ⟨rfl, hb1⟩)
      go_ret
      exact ⟨rfl, hb1⟩
    · rw [strB_neg _ (by omega)]
      go_enter Tryd.func42, Tryd.ntmps42
      go_wp2_with (go_at_call 9; refine (itoa_any v h0 h1 _ HP.out).mono ?_; rintro e w1 ⟨rfl, hb1⟩)
      go_ret
      exact ⟨rfl, hb1⟩

set_option maxRecDepth 100000 in
set_option maxHeartbeats 1000000 in
/-- Level.String. -/
theorem string_any (n : Int) (h0 : -9223372036854775808 ≤ n) (h1 : n ≤ 9223372036854775807) (w : World) (hp : Pow w) :
    Calls Tryd.prog 27 #[.int .i64 n] w fun e w' => e = .returned (.string (lvName n)) ∧ Below w.heap.size w w' := by
  have HP := Lib.hid hp
  clear hp
  unfold lvName
  by_cases a : n < 0
  · rw [if_pos a]
    go_enter Tryd.func27, Tryd.ntmps27
    go_wp2_with (go_at_call 42; refine (str_any _ _ (by decide) (by omega) (by omega) _ HP.out).mono ?_; rintro e w1 ⟨rfl, hb1⟩)
    go_ret
    exact ⟨rfl, hb1⟩
  · by_cases b : n < 4
    · rw [if_neg a, if_pos b]
      go_enter Tryd.func27, Tryd.ntmps27
      go_wp2_with (go_at_call 42; refine (str_any _ _ (by decide) (by omega) (by omega) _ HP.out).mono ?_; rintro e w1 ⟨rfl, hb1⟩)
      go_ret
      exact ⟨rfl, hb1⟩
    · by_cases c : n < 8
      · rw [if_neg a, if_neg b, if_pos c]
        go_enter Tryd.func27, Tryd.ntmps27
        go_wp2_with (go_at_call 42; refine (str_any _ _ (by decide) (by omega) (by omega) _ HP.out).mono ?_; rintro e w1 ⟨rfl, hb1⟩)
        go_ret
        exact ⟨rfl, hb1⟩
      · rw [if_neg a, if_neg b, if_neg c]
        go_enter Tryd.func27, Tryd.ntmps27
        go_wp2_with (go_at_call 42; refine (str_any _ _ (by decide) (by omega) (by omega) _ HP.out).mono ?_; rintro e w1 ⟨rfl, hb1⟩)
        go_ret
        exact ⟨rfl, hb1⟩

theorem app_plus (base : ByteArray) (x : ByteArray) : base ++ ⟨#[43]⟩ ++ x = base ++ (⟨#[43]⟩ ++ x) := by
  apply ByteArray.ext
  simp

set_option maxRecDepth 100000 in
set_option maxHeartbeats 2000000 in
/-- spec.LvName. -/
theorem specName_any (n : Int) (h0 : -9223372036854775808 ≤ n) (h1 : n ≤ 9223372036854775807) (w : World) (hp : Pow w) :
    Calls Tryd.prog 13 #[.int .i64 n] w fun e w' => e = .returned (.string (lvName n)) ∧ Below w.heap.size w w' := by
  have HP := Lib.hid hp
  clear hp
  have key : ∀ (base : ByteArray) (k : Int), base.size ≤ 100 → n - k ≤ 9223372036854775807 → -9223372036854775808 ≤ n - k → (itoaB (n - k)).size ≤ 21 := fun base k _ a b => itoaB_size _ b a
  unfold lvName
  by_cases a : n < 0
  · rw [if_pos a]
    have hs := itoaB_size (n + 4) (by omega) (by omega)
    by_cases z : n = -4
    · subst z
      rw [show (-4 : Int) + 4 = 0 by rfl, strB_zero]
      go_enter Tryd.func13, Tryd.ntmps13
      go_wp2_with fail
      go_ret
      exact ⟨rfl, Below.refl _ _⟩
    · by_cases p : -4 < n
      · rw [strB_pos _ (by omega), ← app_plus]
        go_enter Tryd.func13, Tryd.ntmps13
        go_wp2_with (go_at_call 9; refine (itoa_any _ (by omega) (by omega) _ HP.out).mono ?_; rintro e w1 ⟨rfl, hb1⟩)
        go_ret
        exact ⟨rfl, hb1⟩
      · rw [strB_neg _ (by omega)]
        go_enter Tryd.func13, Tryd.ntmps13
        go_wp2_with (go_at_call 9; refine (itoa_any _ (by omega) (by omega) _ HP.out).mono ?_; rintro e w1 ⟨rfl, hb1⟩)
        go_ret
        exact ⟨rfl, hb1⟩
  · by_cases b : n < 4
    · rw [if_neg a, if_pos b]
      have hs := itoaB_size n (by omega) (by omega)
      by_cases z : n = 0
      · subst z
        rw [strB_zero]
        go_enter Tryd.func13, Tryd.ntmps13
        go_wp2_with fail
        go_ret
        exact ⟨rfl, Below.refl _ _⟩
      · rw [strB_pos _ (by omega), ← app_plus]
        go_enter Tryd.func13, Tryd.ntmps13
        go_wp2_with (go_at_call 9; refine (itoa_any _ (by omega) (by omega) _ HP.out).mono ?_; rintro e w1 ⟨rfl, hb1⟩)
        go_ret
        exact ⟨rfl, hb1⟩
    · by_cases c : n < 8
      · rw [if_neg a, if_neg b, if_pos c]
        have hs := itoaB_size (n - 4) (by omega) (by omega)
        by_cases z : n = 4
        · subst z
          rw [show (4 : Int) - 4 = 0 by rfl, strB_zero]
          go_enter Tryd.func13, Tryd.ntmps13
          go_wp2_with fail
          go_ret
          exact ⟨rfl, Below.refl _ _⟩
        · rw [strB_pos _ (by omega), ← app_plus]
          go_enter Tryd.func13, Tryd.ntmps13
          go_wp2_with (go_at_call 9; refine (itoa_any _ (by omega) (by omega) _ HP.out).mono ?_; rintro e w1 ⟨rfl, hb1⟩)
          go_ret
          exact ⟨rfl, hb1⟩
      · rw [if_neg a, if_neg b, if_neg c]
        have hs := itoaB_size (n - 8) (by omega) (by omega)
        by_cases z : n = 8
        · subst z
          rw [show (8 : Int) - 8 = 0 by rfl, strB_zero]
          go_enter Tryd.func13, Tryd.ntmps13
          go_wp2_with fail
          go_ret
          exact ⟨rfl, Below.refl _ _⟩
        · rw [strB_pos _ (by omega), ← app_plus]
          go_enter Tryd.func13, Tryd.ntmps13
          go_wp2_with (go_at_call 9; refine (itoa_any _ (by omega) (by omega) _ HP.out).mono ?_; rintro e w1 ⟨rfl, hb1⟩)
          go_ret
          exact ⟨rfl, hb1⟩

end Go.Proofs.YtconeignnananaaDoor.Lv

/- How package spec reads the text of a level: the walks. -/
import Derived.Test.YtconeignnananaaDoorLvC
import Derived.Test.YtconeignnananaaDoorLvP
import Derived.Laws.RangeString
import Derived.Laws.RangeAny
import Derived.Laws.Runes
import Derived.Deep.LoopGhost
namespace Go.Proofs.YtconeignnananaaDoor.Lv
set_option linter.unusedVariables false
set_option linter.unusedSimpArgs false
open Go Go.Lib Go.RowKit

theorem at_list (s : ByteArray) (k : Nat) (hk : k < s.size) : s.data.toList[k]? = some (s[k]'hk) := by
  rw [List.getElem?_eq_getElem (by rw [← size_eq]; exact hk)]
  rfl

theorem sign_here {s : ByteArray} {k : Nat} (hk : k < s.size) (h : k ≤ signAt s.data.toList) (hs : isSign (s[k]'hk) = true) : signAt s.data.toList = k := by
  rcases Nat.lt_or_ge k (signAt s.data.toList) with hlt | hge
  · obtain ⟨b, h1, h2⟩ := signAt_before _ _ hlt
    rw [at_list s k hk] at h1
    injection h1 with h1
    rw [h1, h2] at hs
    cases hs
  · omega
theorem sign_on {s : ByteArray} {k : Nat} (hk : k < s.size) (h : k ≤ signAt s.data.toList) (hs : isSign (s[k]'hk) = false) : k + 1 ≤ signAt s.data.toList := by
  rcases Nat.lt_or_ge k (signAt s.data.toList) with hlt | hge
  · exact hlt
  · have e : signAt s.data.toList = k := by omega
    obtain ⟨b, h1, h2⟩ := signAt_there s.data.toList (by rw [e, ← size_eq]; exact hk)
    rw [e, at_list s k hk] at h1
    injection h1 with h1
    rw [h1, h2] at hs
    cases hs

/-- What zzIndexSign gives. -/
def signIdx (s : ByteArray) : Int := if signAt s.data.toList < s.size then (signAt s.data.toList : Int) else -1

theorem ret_int {k : IntKind} {a b : Int} (h : a = b) : Ending.returned (.int k a) = .returned (.int k b) := by rw [h]

theorem ret_bool {a b : Bool} (h : a = b) : Ending.returned (.bool a) = .returned (.bool b) := by rw [h]

set_option maxRecDepth 100000 in
set_option maxHeartbeats 1000000 in
theorem zzSign_any (s : ByteArray) (hs : s.size ≤ 1000000000) (w : World) : Calls Tryd.prog 55 #[.string s] w fun e w' => e = .returned (.int .i64 (signIdx s)) ∧ w = w' := by
  obtain ⟨Q, hQ⟩ : ∃ Q : Ending → World → Prop, Q = fun e w' => e = .returned (.int .i64 (signIdx s)) ∧ w = w' := ⟨_, rfl⟩
  rw [← hQ]
  have HQ := Lib.hid hQ
  clear hQ
  go_enter Tryd.func55, Tryd.ntmps55
  go_wp2
  go_loopg [3] s.size (fun n i wr => ∃ k : Nat, k ≤ s.size ∧ s.size - k ≤ n ∧ i = .int .i64 k ∧ Hid (k ≤ signAt s.data.toList) ∧ wr = w)
  case atStart => exact ⟨0, Nat.zero_le _, by omega, rfl, Nat.zero_le _, rfl⟩
  case round =>
    obtain ⟨k, hk, hn, rfl, hsg, rfl⟩ := hrel
    by_cases hlt : k < s.size
    · have hlt' : (k : Int) < (s.size : Int) := by omega
      obtain ⟨b, hb⟩ : ∃ b, b = (s[k]'hlt).toNat := ⟨_, rfl⟩
      by_cases hp : b = 43
      · have hx : (s[k]'hlt).toNat = 43 := by omega
        have Hx := Lib.hid hx
        clear hb hp
        go_wp2
        have hq := HQ.out
        subst hq
        have e := sign_here hlt hsg.out (by unfold isSign; rw [Hx.out]; rfl)
        exact ⟨ret_int (by unfold signIdx; rw [e, if_pos hlt]), rfl⟩
      · by_cases hm : b = 45
        · have hx : (s[k]'hlt).toNat = 45 := by omega
          have Hx := Lib.hid hx
          clear hb hp hm
          go_wp2
          have hq := HQ.out
          subst hq
          have e := sign_here hlt hsg.out (by unfold isSign; rw [Hx.out]; rfl)
          exact ⟨ret_int (by unfold signIdx; rw [e, if_pos hlt]), rfl⟩
        · have q1 : (((s[k]'hlt).toNat : Int) == 43) = false := by rw [beq_eq_false_iff_ne]; omega
          have q2 : (((s[k]'hlt).toNat : Int) == 45) = false := by rw [beq_eq_false_iff_ne]; omega
          have hns : isSign (s[k]'hlt) = false := by unfold isSign; simp; omega
          have Hns := Lib.hid hns
          clear hb hp hm hns
          go_wp2
          go_roundg (s.size - (k + 1))
          case measure => omega
          case rel => exact ⟨k + 1, by omega, Nat.le_refl _, by push_cast; rfl, sign_on hlt hsg.out Hns.out, rfl⟩
    · have hlt' : ¬ (k : Int) < (s.size : Int) := by omega
      go_wp2
      have hq := HQ.out
      subst hq
      have := hsg.out
      exact ⟨ret_int (by unfold signIdx; rw [if_neg (by omega)]), rfl⟩

set_option maxRecDepth 100000 in
set_option maxHeartbeats 1000000 in
/-- spec.LvPlain. -/
theorem plain_any (s : ByteArray) (hs : s.size ≤ 4000000000) (w : World) : Calls Tryd.prog 18 #[.string s] w fun e w' => e = .returned (.bool (s.data.toList.all fun b => decide (b.toNat < 128))) ∧ w = w' := by
  obtain ⟨Q, hQ⟩ : ∃ Q : Ending → World → Prop, Q = fun e w' => e = .returned (.bool (s.data.toList.all fun b => decide (b.toNat < 128))) ∧ w = w' := ⟨_, rfl⟩
  rw [← hQ]
  have HQ := Lib.hid hQ
  clear hQ
  go_enter Tryd.func18, Tryd.ntmps18
  go_wp2
  go_loopg [3] s.size (fun n i wr => ∃ k : Nat, k ≤ s.size ∧ s.size - k ≤ n ∧ i = .int .i64 k ∧ Hid (∀ b ∈ s.data.toList.take k, b.toNat < 128) ∧ wr = w)
  case atStart => exact ⟨0, Nat.zero_le _, by omega, rfl, fun b hb => by simp at hb, rfl⟩
  case round =>
    obtain ⟨k, hk, hn, rfl, hsg, rfl⟩ := hrel
    by_cases hlt : k < s.size
    · have hlt' : (k : Int) < (s.size : Int) := by omega
      by_cases hp : (s[k]'hlt).toNat < 128
      · have q1 : ¬ (((s[k]'hlt).toNat : Int) ≥ 128) := by omega
        have Hp := Lib.hid hp
        clear hp
        go_wp2
        go_roundg (s.size - (k + 1))
        case measure => omega
        case rel =>
          refine ⟨k + 1, by omega, Nat.le_refl _, by push_cast; rfl, fun b hb => ?_, rfl⟩
          rw [List.take_add_one, at_list s k hlt] at hb
          rcases List.mem_append.1 hb with hb | hb
          · exact hsg.out b hb
          · simp at hb; subst hb; exact Hp.out
      · have q1 : ((s[k]'hlt).toNat : Int) ≥ 128 := by omega
        have Hp := Lib.hid hp
        clear hp
        go_wp2
        have hq := HQ.out
        subst hq
        have : (s.data.toList.all fun b => decide (b.toNat < 128)) = false := by
          rw [List.all_eq_false]
          exact ⟨s[k]'hlt, List.mem_of_getElem? (at_list s k hlt), by simpa using Hp.out⟩
        exact ⟨ret_bool this.symm, rfl⟩
    · have hlt' : ¬ (k : Int) < (s.size : Int) := by omega
      go_wp2
      have hq := HQ.out
      subst hq
      have : (s.data.toList.all fun b => decide (b.toNat < 128)) = true := by
        rw [List.all_eq_true]
        intro b hb
        have := hsg.out b (by rw [List.take_of_length_le (by rw [← size_eq]; omega)]; exact hb)
        simpa using this
      exact ⟨ret_bool this.symm, rfl⟩

/-- spec.lvLetter. -/
def letterOf (c : Nat) : Nat := if 65 ≤ c ∧ c ≤ 90 then c else if 97 ≤ c ∧ c ≤ 122 then c - 97 + 65 else 0

set_option maxRecDepth 100000 in
set_option maxHeartbeats 1000000 in
theorem letter_any (c : Nat) (hc : c < 128) (w : World) : Calls Tryd.prog 60 #[.int .i32 c] w fun e w' => e = .returned (.int .i32 (letterOf c)) ∧ w = w' := by
  unfold letterOf
  by_cases h1 : 65 ≤ c ∧ c ≤ 90
  · rw [if_pos h1]
    have a : (65 : Int) ≤ (c : Int) := by omega
    have b : (c : Int) ≤ 90 := by omega
    clear h1
    go_enter Tryd.func60, Tryd.ntmps60
    go_wp2
    all_goals first | (exfalso; omega) | (go_ret; exact ⟨ret_int (by omega), rfl⟩)
  · rw [if_neg h1]
    by_cases h2 : 97 ≤ c ∧ c ≤ 122
    · rw [if_pos h2]
      have a : ¬ (c : Int) ≤ 90 := by omega
      have a' : (97 : Int) ≤ (c : Int) := by omega
      have b : (c : Int) ≤ 122 := by omega
      have e : ((c - 97 + 65 : Nat) : Int) = (c : Int) - 97 + 65 := by omega
      have E := Lib.hid e
      clear h1 h2 e
      go_enter Tryd.func60, Tryd.ntmps60
      go_wp2
      all_goals first | (exfalso; omega) | (go_ret; exact ⟨ret_int (by omega), rfl⟩)
    · rw [if_neg h2]
      by_cases l : c < 65
      · have a : ¬ (65 : Int) ≤ (c : Int) := by omega
        have b : ¬ (97 : Int) ≤ (c : Int) := by omega
        clear h1 h2
        go_enter Tryd.func60, Tryd.ntmps60
        go_wp2
        all_goals first | (exfalso; omega) | (go_ret; exact ⟨ret_int (by omega), rfl⟩)
      · by_cases l2 : c < 97
        · have a : ¬ (c : Int) ≤ 90 := by omega
          have b : ¬ (97 : Int) ≤ (c : Int) := by omega
          clear h1 h2
          go_enter Tryd.func60, Tryd.ntmps60
          go_wp2
          all_goals first | (exfalso; omega) | (go_ret; exact ⟨ret_int (by omega), rfl⟩)
        · have a : ¬ (c : Int) ≤ 90 := by omega
          have b : ¬ (c : Int) ≤ 122 := by omega
          clear h1 h2
          go_enter Tryd.func60, Tryd.ntmps60
          go_wp2
          all_goals first | (exfalso; omega) | (go_ret; exact ⟨ret_int (by omega), rfl⟩)

theorem letter_byte {b : UInt8} (h : b.toNat < 128) : letterOf b.toNat = if isLetter b = true then (upA b).toNat else 0 := by
  unfold letterOf isLetter upA
  by_cases h1 : 65 ≤ b.toNat ∧ b.toNat ≤ 90
  · have : ¬ (97 ≤ b.toNat ∧ b.toNat ≤ 122) := by omega
    simp [h1, this]
  · by_cases h2 : 97 ≤ b.toNat ∧ b.toNat ≤ 122
    · simp [h1, h2]
      omega
    · simp only [h1, h2, if_false]
      have : ¬ (((decide (65 ≤ b.toNat) && decide (b.toNat ≤ 90)) || (decide (97 ≤ b.toNat) && decide (b.toNat ≤ 122))) = true) := by simp; omega
      rw [if_neg this]

theorem toList_beq (s s' : ByteArray) : (s.toList == s'.toList) = decide (s = s') := by
  rw [Bool.eq_iff_iff, beq_iff_eq, decide_eq_true_iff, ByteArray.toList_eq, ByteArray.toList_eq]
  constructor
  · intro h
    obtain ⟨⟨a⟩⟩ := s
    obtain ⟨⟨b⟩⟩ := s'
    simp only at h
    subst h
    rfl
  · intro h; rw [h]
theorem beq_list {s : ByteArray} {a : Array UInt8} (h : ¬ s = ⟨a⟩) : (s.toList == a.toList) = false := by
  rw [beq_eq_false_iff_ne]
  intro h2
  rw [ByteArray.toList_eq] at h2
  exact h (by obtain ⟨⟨l⟩⟩ := s; obtain ⟨m⟩ := a; simp only at h2; subst h2; rfl)
theorem beq_no {s s' : ByteArray} (h : ¬ s = s') : (s.toList == s'.toList) = false := by
  rw [toList_beq]; simpa using h

def BasePost (l : List UInt8) (w : World) (e : Ending) (w' : World) : Prop := e = .returned (.tuple #[.int .i64 ((baseOf l).getD 0), .bool (baseOf l).isSome]) ∧ Below w.heap.size w w'

theorem iter_below (w : World) (s : ByteArray) (pos : Nat) : Below w.heap.size w (w.iter s pos) := (Below.refl _ _).alloc (Nat.le_refl _) _

theorem enc_up (b : UInt8) (h : b.toNat < 128) : (Utf8.encode ((upA b).toNat : Int)) = ⟨#[upA b]⟩ := by
  have h2 : (upA b).toNat < 128 := by
    unfold upA
    split
    · simp; omega
    · exact h
  unfold Utf8.encode
  have hv : Utf8.valid ((upA b).toNat : Int) = true := by unfold Utf8.valid; simp; omega
  simp only [hv, if_true]
  rw [if_pos (by simpa using h2)]
  simp

set_option maxRecDepth 100000 in
set_option maxHeartbeats 2000000 in
/-- spec.lvBase. -/
theorem base_any (s : ByteArray) (hs : s.size ≤ 1000000) (ha : ∀ b ∈ s.data.toList, b.toNat < 128) (w : World) : Calls Tryd.prog 44 #[.string s] w (BasePost s.data.toList w) := by
  obtain ⟨Q, hQ⟩ : ∃ Q, Q = BasePost s.data.toList w := ⟨_, rfl⟩
  rw [← hQ]
  have HQ := Lib.hid hQ
  have HA := Lib.hid ha
  clear hQ ha
  go_enter Tryd.func44, Tryd.ntmps44
  go_wp2
  go_loopg [4, 6] s.size (fun n u c wr => ∃ (k : Nat) (x : ByteArray), u = .string x ∧ wr = w.iter s k ∧ k ≤ s.size ∧ s.size - k ≤ n ∧ x.size = k ∧ Hid (x.data.toList = (s.data.toList.take k).map upA))
  case atStart => exact ⟨0, ByteArray.empty, rfl, rfl, Nat.zero_le _, by omega, rfl, rfl⟩
  case round =>
    obtain ⟨k, x, rfl, rfl, hk, hn, hxs, hx⟩ := hrel
    have Hn := Lib.hid hn
    have Hxs := Lib.hid hxs
    have hxl : x.size ≤ 1000000 := by omega
    clear hn hxs
    by_cases hlt : k < s.size
    · have hb := HA.out (s[k]'hlt) (List.mem_of_getElem? (at_list s k hlt))
      have hnx : ∀ ty, (Instr.next (.pointer (some ⟨w.heap.size, 0, none⟩)) true ty).run Tryd.prog (w.iter s k) = .ok (.tuple #[.bool true, .int .i64 k, .int .i32 (s[k]'hlt).toNat]) (w.iter s (k + 1)) := fun ty => run_next_ascii w s k ty hlt hb
      obtain ⟨b, hbe⟩ : ∃ b, b = s[k]'hlt := ⟨_, rfl⟩
      rw [← hbe] at hnx hb
      have Hbe := Lib.hid hbe
      have cL := letter_any b.toNat hb
      rw [letter_byte hb] at cL
      clear hbe
      by_cases hl : isLetter b = true
      · rw [if_pos hl] at cL
        have hue := enc_up b hb
        have h65 : 65 ≤ (upA b).toNat := by
          unfold isLetter at hl
          unfold upA
          simp at hl
          split
          · simp; omega
          · omega
        have h0 : (((upA b).toNat : Int) == 0) = false := by rw [beq_eq_false_iff_ne]; omega
        have CL := Lib.hid cL
        have Hb := Lib.hid (And.intro hb hl)
        have hus : (⟨#[upA b]⟩ : ByteArray).size = 1 := rfl
        clear cL h65 hb hl
        go_wp2_with (go_at_call 60; refine (CL.out _).mono ?_; rintro e w1 ⟨rfl, rfl⟩)
        go_roundg (s.size - (k + 1))
        case measure => have := Hn.out; omega
        case rel =>
          refine ⟨k + 1, x ++ ⟨#[upA b]⟩, rfl, rfl, by omega, Nat.le_refl _, ?_, ?_⟩
          · rw [ByteArray.size_append, Hxs.out]; rfl
          · show _ = _
            rw [ByteArray.toList_data_append, hx.out, List.take_add_one, at_list s k hlt, List.map_append, ← Hbe.out]
            rfl
      · rw [if_neg hl] at cL
        have CL := Lib.hid cL
        have Hb := Lib.hid (And.intro hb hl)
        clear cL hb hl
        go_wp2_with (go_at_call 60; refine (CL.out _).mono ?_; rintro e w1 ⟨rfl, rfl⟩)
        have hq := HQ.out
        subst hq
        have e : baseOf s.data.toList = none := baseOf_none b (by rw [Hbe.out]; exact List.mem_of_getElem? (at_list s k hlt)) (by simpa using Hb.out.2)
        unfold BasePost
        rw [e]
        exact ⟨rfl, iter_below _ _ _⟩
    · have hnx : ∀ ty, (Instr.next (.pointer (some ⟨w.heap.size, 0, none⟩)) true ty).run Tryd.prog (w.iter s k) = .ok (.tuple #[.bool false]) (w.iter s k) := fun ty => run_next_end w s k ty hlt
      have hx' : x.data.toList = s.data.toList.map upA := by rw [hx.out, List.take_of_length_le (by rw [← size_eq]; omega)]
      have eb : baseOf s.data.toList = baseUp x.data.toList := by unfold baseOf; rw [hx']
      have Eb := Lib.hid eb
      have hb0 := iter_below w s k
      have Hb0 := Lib.hid hb0
      clear hx' eb hx hb0
      have hend : Q (.returned (.tuple #[.int .i64 ((baseUp x.data.toList).getD 0), .bool (baseUp x.data.toList).isSome])) (w.iter s k) := by
        rw [HQ.out]
        exact ⟨by rw [Eb.out], Hb0.out⟩
      have Hend := Lib.hid hend
      clear hend Eb
      by_cases e1 : x = ⟨#[68, 69, 66, 85, 71]⟩
      · subst e1
        clear Hxs hxl
        go_wp2
        exact Hend.out
      · by_cases e2 : x = ⟨#[73, 78, 70, 79]⟩
        · subst e2
          clear Hxs hxl e1
          go_wp2
          exact Hend.out
        · by_cases e3 : x = ⟨#[87, 65, 82, 78]⟩
          · subst e3
            clear Hxs hxl e1 e2
            go_wp2
            exact Hend.out
          · by_cases e4 : x = ⟨#[69, 82, 82, 79, 82]⟩
            · subst e4
              clear Hxs hxl e1 e2 e3
              go_wp2
              exact Hend.out
            · have hn0 : baseUp x.data.toList = none := by
                have key : ∀ a : Array UInt8, ¬ x = ⟨a⟩ → ¬ x.data.toList = a.toList := fun a h h2 => h (by obtain ⟨⟨l⟩⟩ := x; simp only at h2; subst h2; rfl)
                unfold baseUp
                rw [if_neg (key _ e1), if_neg (key _ e2), if_neg (key _ e3), if_neg (key _ e4)]
              have q1 : (x.toList == [68, 69, 66, 85, 71]) = false := beq_list e1
              have q2 : (x.toList == [73, 78, 70, 79]) = false := beq_list e2
              have q3 : (x.toList == [87, 65, 82, 78]) = false := beq_list e3
              have q4 : (x.toList == [69, 82, 82, 79, 82]) = false := beq_list e4
              have Hn0 := Lib.hid hn0
              clear e1 e2 e3 e4 hn0 Hxs hxl
              go_wp2
              rw [Hn0.out] at Hend
              exact Hend.out

def NumPost (l : List UInt8) (w : World) (e : Ending) (w' : World) : Prop := e = .returned (.tuple #[.int .i64 ((numSpec l).getD 0), .bool (numSpec l).isSome]) ∧ w = w'

theorem num_eq {k : IntKind} {a b : Int} (h : a = b) : Value.int k a = .int k b := by rw [h]

theorem neg_back {u : Nat} (h : u ≤ 9223372036854775808) : IntKind.i64.wrap (IntKind.u64.wrap (-(u : Int))) = -(u : Int) := by
  simp only [IntKind.wrap, IntKind.signed, IntKind.bits]
  simp
  omega

set_option maxRecDepth 100000 in
set_option maxHeartbeats 2000000 in
/-- spec.lvNumber, of what begins with a sign. -/
theorem number_any (s : ByteArray) (c : UInt8) (r : List UInt8) (hl : s.data.toList = c :: r) (hs : s.size ≤ 1000000) (hc : isSign c = true) (w : World) : Calls Tryd.prog 45 #[.string s] w (NumPost s.data.toList w) := by
  have hsz : s.size = r.length + 1 := by rw [size_eq, hl]; rfl
  by_cases hr : r = []
  · subst hr
    have h2 : (s.size : Int) < 2 := by simp at hsz; omega
    unfold NumPost
    rw [hl]
    have e : numSpec [c] = none := rfl
    rw [e]
    clear hl hsz
    go_enter Tryd.func45, Tryd.ntmps45
    go_wp2
    go_ret2
    exact ⟨rfl, rfl⟩
  · have hrl : 0 < r.length := List.length_pos_iff.2 hr
    have h2 : ¬ (s.size : Int) < 2 := by omega
    have h00 : 0 < s.size := by omega
    have hc0 : (s[0]'h00) = c := by
      have h := at_list s 0 h00
      rw [hl] at h
      exact (Option.some.inj h).symm
    have hspec : numSpec s.data.toList = (numGo (c.toNat == 45) 0 r).map fun (u : Nat) => if c.toNat = 45 then -(u : Int) else (u : Int) := by
      rw [hl]; unfold numSpec; dsimp only; rw [if_neg hr]
    have hat : ∀ k (hk : k < s.size), 1 ≤ k → r[k - 1]? = some (s[k]'hk) := by
      intro k hk h1
      have h := at_list s k hk
      rw [hl] at h
      cases k with
      | zero => omega
      | succ k => simpa using h
    obtain ⟨Q, hQ⟩ : ∃ Q, Q = NumPost s.data.toList w := ⟨_, rfl⟩
    rw [← hQ]
    have HQ := Lib.hid hQ
    have Hat := Lib.hid hat
    have Hspec := Lib.hid hspec
    have Hsz := Lib.hid hsz
    obtain ⟨M, hM⟩ : ∃ M, M = (c.toNat == 45) := ⟨_, rfl⟩
    have hm : (((s[0]'h00).toNat : Int) == 45) = M := by
      rw [hM, hc0, Bool.eq_iff_iff, beq_iff_eq, beq_iff_eq]
      omega
    rw [← hM] at Hspec
    have HM := Lib.hid hM
    clear hQ hat hspec hsz hl hc0 hM
    go_enter Tryd.func45, Tryd.ntmps45
    go_wp2
    go_loopg [5, 6, 7] s.size (fun n a i b wr => ∃ (k acc : Nat), 1 ≤ k ∧ k ≤ s.size ∧ s.size - k ≤ n ∧ i = .int .i64 k ∧ a = .int .u64 acc ∧ acc ≤ 9223372036854775808 ∧ Hid (fits M acc) ∧ Hid (numGo M 0 r = numGo M acc (r.drop (k - 1))) ∧ wr = w)
    case atStart => exact ⟨1, 0, Nat.le_refl _, by omega, by omega, rfl, rfl, by omega, .inl (by decide), rfl, rfl⟩
    case round =>
      obtain ⟨k, acc, hk1, hk, hn, rfl, rfl, ha, hf, hg, rfl⟩ := hrel
      by_cases hlt : k < s.size
      · have hlt' : (k : Int) < (s.size : Int) := by omega
        have hdrop : r.drop (k - 1) = (s[k]'hlt) :: r.drop k := by
          have h := Hat.out k hlt hk1
          have hkl : k - 1 < r.length := (List.getElem?_eq_some_iff.1 h).1
          rw [List.drop_eq_getElem_cons hkl, show k - 1 + 1 = k by omega]
          rw [List.getElem?_eq_getElem hkl] at h
          rw [Option.some.inj h]
        have hg2 := hg.out
        rw [hdrop] at hg2
        simp only [numGo] at hg2
        have Hn := Lib.hid hn
        clear hn
        obtain ⟨b, hb⟩ : ∃ b : Nat, b = (s[k]'hlt).toNat := ⟨_, rfl⟩
        rw [← hb] at hg2
        have hbv : (s[k]'hlt).toNat = b := hb.symm
        have hb255 : b < 256 := by rw [hb]; exact (s[k]'hlt).toNat_lt
        clear hb hdrop
        by_cases hbad : b < 48 ∨ 57 < b ∨ 922337203685477580 < acc
        · rw [if_neg (by omega)] at hg2
          have Hg2 := Lib.hid hg2
          have hfin : Q (.returned (.tuple #[.int .i64 0, .bool false])) wr := by
            rw [HQ.out]
            unfold NumPost
            rw [Hspec.out, Hg2.out]
            exact ⟨rfl, rfl⟩
          have Hfin := Lib.hid hfin
          clear hg2 hfin
          by_cases b1 : b < 48
          · have b1' : (b : Int) < 48 := by omega
            clear hbad b1
            go_wp2
            exact Hfin.out
          · by_cases b2 : 57 < b
            · have b1' : ¬ (b : Int) < 48 := by omega
              have b2' : (b : Int) > 57 := by omega
              clear hbad b1 b2
              go_wp2
              exact Hfin.out
            · have b1' : ¬ (b : Int) < 48 := by omega
              have b2' : ¬ (b : Int) > 57 := by omega
              have b3' : (acc : Int) > 922337203685477580 := by omega
              clear hbad b1 b2
              go_wp2
              exact Hfin.out
        · have b1' : ¬ (b : Int) < 48 := by omega
          have b2' : ¬ (b : Int) > 57 := by omega
          have b3' : ¬ (acc : Int) > 922337203685477580 := by omega
          have b4 : (48 : Int) ≤ (b : Int) := by omega
          have b5 : (b : Int) ≤ 57 := by omega
          have b6 : (acc : Int) ≤ 922337203685477580 := by omega
          clear hbad
          by_cases t1 : 9223372036854775808 < acc * 10 + (b - 48)
          · rw [if_neg (by omega)] at hg2
            have Hg2 := Lib.hid hg2
            have hfin : Q (.returned (.tuple #[.int .i64 0, .bool false])) wr := by
              rw [HQ.out]
              unfold NumPost
              rw [Hspec.out, Hg2.out]
              exact ⟨rfl, rfl⟩
            have Hfin := Lib.hid hfin
            have t1' : 10 * (acc : Int) + ((b : Int) - 48) > 9223372036854775808 := by omega
            clear hg2 hfin t1
            go_wp2
            exact Hfin.out
          · by_cases t2 : acc * 10 + (b - 48) = 9223372036854775808
            · cases M with
              | false =>
                rw [if_neg (by simp [t2])] at hg2
                have Hg2 := Lib.hid hg2
                have hfin : Q (.returned (.tuple #[.int .i64 0, .bool false])) wr := by
                  rw [HQ.out]
                  unfold NumPost
                  rw [Hspec.out, Hg2.out]
                  exact ⟨rfl, rfl⟩
                have Hfin := Lib.hid hfin
                have t1' : ¬ 10 * (acc : Int) + ((b : Int) - 48) > 9223372036854775808 := by omega
                have t2' : ((10 * (acc : Int) + ((b : Int) - 48)) == 9223372036854775808) = true := by rw [beq_iff_eq]; omega
                clear hg2 hfin t1 t2
                go_wp2
                exact Hfin.out
              | true =>
                rw [if_pos ⟨by omega, by omega, by omega, by omega, by simp⟩] at hg2
                have Hg2 := Lib.hid hg2
                have T2 := Lib.hid t2
                have t1' : ¬ 10 * (acc : Int) + ((b : Int) - 48) > 9223372036854775808 := by omega
                have t2' : ((10 * (acc : Int) + ((b : Int) - 48)) == 9223372036854775808) = true := by rw [beq_iff_eq]; omega
                clear hg2 t1 t2
                go_wp2
                go_roundg (s.size - (k + 1))
                case measure => have := Hn.out; omega
                case rel => exact ⟨k + 1, acc * 10 + (b - 48), by omega, by omega, Nat.le_refl _, by push_cast; rfl, num_eq (by omega), by have := T2.out; omega, .inr ⟨T2.out, rfl⟩, Hg2.out, rfl⟩
            · rw [if_pos ⟨by omega, by omega, by omega, by omega, fun h => t2 h.1⟩] at hg2
              have Hg2 := Lib.hid hg2
              have T2 := Lib.hid (And.intro t1 t2)
              have t1' : ¬ 10 * (acc : Int) + ((b : Int) - 48) > 9223372036854775808 := by omega
              have t2' : ((10 * (acc : Int) + ((b : Int) - 48)) == 9223372036854775808) = false := by rw [beq_eq_false_iff_ne]; omega
              clear hg2 t1 t2
              go_wp2
              go_roundg (s.size - (k + 1))
              case measure => have := Hn.out; omega
              case rel => exact ⟨k + 1, acc * 10 + (b - 48), by omega, by omega, Nat.le_refl _, by push_cast; rfl, num_eq (by omega), by have := T2.out; omega, .inl (by have := T2.out; omega), Hg2.out, rfl⟩
      · have hlt' : ¬ (k : Int) < (s.size : Int) := by omega
        have hend : r.drop (k - 1) = [] := List.drop_eq_nil_of_le (by have := Hsz.out; omega)
        have hg2 := hg.out
        rw [hend] at hg2
        simp only [numGo] at hg2
        cases hMc : M with
        | true =>
          subst hMc
          have hfin : Q (.returned (.tuple #[.int .i64 (-(acc : Int)), .bool true])) wr := by
            rw [HQ.out]
            unfold NumPost
            rw [Hspec.out, hg2]
            have h45 : c.toNat = 45 := by have := HM.out; simpa using this.symm
            simp [h45]
          have Hfin := Lib.hid hfin
          have hnb := neg_back ha
          clear hg2 hend hfin
          go_wp2
          exact Hfin.out
        | false =>
          subst hMc
          have hfin : Q (.returned (.tuple #[.int .i64 (acc : Int), .bool true])) wr := by
            rw [HQ.out]
            unfold NumPost
            rw [Hspec.out, hg2]
            have h45 : ¬ c.toNat = 45 := by have := HM.out; simpa using this.symm
            simp [h45]
          have Hfin := Lib.hid hfin
          have hacc : (acc : Int) ≤ 9223372036854775807 := by
            rcases hf.out with h | h
            · omega
            · cases h.2
          clear hg2 hend hfin
          go_wp2
          exact Hfin.out

end Go.Proofs.YtconeignnananaaDoor.Lv

/- How package spec reads the text of a level (LvParse, LvParsed): the walks. -/
import Derived.Test.YtconeignnananaaDoorLvF
namespace Go.Proofs.YtconeignnananaaDoor.Lv
set_option linter.unusedVariables false
set_option linter.unusedSimpArgs false
open Go Go.Lib Go.RowKit

def ParsePost (l : List UInt8) (w : World) (e : Ending) (w' : World) : Prop :=
  (∃ x : Int, e = .returned (.tuple #[.int .i64 x, .bool (levelOf l).isSome]) ∧ (∀ v, levelOf l = some v → x = v)) ∧ Below w.heap.size w w'

theorem ext_take (s : ByteArray) (k : Nat) : (s.extract 0 k).data.toList = s.data.toList.take k := by
  rw [extract_data]; simp
theorem ext_drop (s : ByteArray) (k : Nat) : (s.extract k s.size).data.toList = s.data.toList.drop k := extract_to_end s k

theorem baseUp_bounds {l : List UInt8} {v : Int} (h : baseUp l = some v) : -4 ≤ v ∧ v ≤ 8 := by
  unfold baseUp at h
  repeat' split at h
  all_goals first | (injection h with h; omega) | (cases h; done) | cases h

set_option maxRecDepth 100000 in
set_option maxHeartbeats 2000000 in
/-- spec.LvParse. -/
theorem parse_any (s : ByteArray) (hs : s.size ≤ 1000000) (ha : ∀ b ∈ s.data.toList, b.toNat < 128) (w : World) : Calls Tryd.prog 31 #[.string s] w (ParsePost s.data.toList w) := by
  obtain ⟨Q, hQ⟩ : ∃ Q, Q = ParsePost s.data.toList w := ⟨_, rfl⟩
  rw [← hQ]
  have HQ := Lib.hid hQ
  have HA := Lib.hid ha
  clear hQ ha
  go_enter Tryd.func31, Tryd.ntmps31
  go_wp2
  go_loopg [4] s.size (fun n i wr => ∃ k : Nat, k ≤ s.size ∧ s.size - k ≤ n ∧ i = .int .i64 k ∧ Hid (k ≤ signAt s.data.toList) ∧ wr = w)
  case atStart => exact ⟨0, Nat.zero_le _, by omega, rfl, Nat.zero_le _, rfl⟩
  case round =>
    obtain ⟨k, hk, hn, rfl, hsg, rfl⟩ := hrel
    by_cases hon : k < s.size ∧ k < signAt s.data.toList
    · obtain ⟨hlt, hks⟩ := hon
      have hlt' : (k : Int) < (s.size : Int) := by omega
      have hns : isSign (s[k]'hlt) = false := by
        obtain ⟨b, h1, h2⟩ := signAt_before _ _ hks
        rw [at_list s k hlt] at h1
        rw [Option.some.inj h1]; exact h2
      unfold isSign at hns
      simp only [Bool.or_eq_false_iff, beq_eq_false_iff_ne] at hns
      have q1 : (((s[k]'hlt).toNat : Int) != 43) = true := by rw [bne_iff_ne]; omega
      have q2 : (((s[k]'hlt).toNat : Int) != 45) = true := by rw [bne_iff_ne]; omega
      have Hks := Lib.hid hks
      clear hns hks
      go_wp2
      go_roundg (s.size - (k + 1))
      case measure => omega
      case rel => exact ⟨k + 1, by omega, Nat.le_refl _, by push_cast; rfl, Hks.out, rfl⟩
    · have hkk : signAt s.data.toList = k := by
        have h1 := hsg.out
        have h2 := signAt_le s.data.toList
        rw [← size_eq] at h2
        omega
      -- behind the loop
      have hle : (k : Int) ≤ (s.size : Int) := by omega
      have cB := fun wx => base_any (s.extract 0 k) (by rw [size_eq, ext_take, List.length_take, ← size_eq]; omega) (fun b hb => HA.out b (List.mem_of_mem_take (by rw [ext_take] at hb; exact hb))) wx
      rw [ext_take] at cB
      have hlv : levelOf s.data.toList = match baseOf (s.data.toList.take k) with
        | none => none
        | some b => if k = s.data.toList.length then some b else (numOf (s.data.toList.drop k)).map fun v => IntKind.i64.wrap (b + v) := by
        unfold levelOf; rw [hkk]; first | rfl | (cases baseOf (s.data.toList.take k) <;> rfl)
      obtain ⟨B, hB⟩ : ∃ B, B = baseOf (s.data.toList.take k) := ⟨_, rfl⟩
      have hBb : ∀ b, B = some b → -4 ≤ b ∧ b ≤ 8 := fun b h => baseUp_bounds (l := (s.data.toList.take k).map upA) (by rw [← h, hB]; rfl)
      unfold BasePost at cB
      rw [← hB] at cB hlv
      have CB := Lib.hid cB
      have Hlv := Lib.hid hlv
      have Hkk := Lib.hid hkk
      clear hB cB hlv hkk hon
      cases B with
      | none =>
        have hlv := Hlv.out
        simp only at hlv
        have HN := Lib.hid hlv
        clear hlv
        by_cases hlt : k < s.size
        · have hsg2 : isSign (s[k]'hlt) = true := by
            obtain ⟨b, h1, h2⟩ := signAt_there s.data.toList (by rw [Hkk.out, ← size_eq]; exact hlt)
            rw [Hkk.out, at_list s k hlt] at h1
            rw [Option.some.inj h1]; exact h2
          unfold isSign at hsg2
          simp only [Bool.or_eq_true, beq_iff_eq] at hsg2
          have hlt' : (k : Int) < (s.size : Int) := by omega
          rcases hsg2 with h43 | h45
          · go_wp2_with (go_at_call 44; refine (CB.out _).mono ?_; rintro e w1 ⟨rfl, hb1⟩)
            rw [HQ.out]
            unfold ParsePost
            rw [HN.out]
            exact ⟨⟨_, rfl, fun v hv => by cases hv⟩, hb1⟩
          · go_wp2_with (go_at_call 44; refine (CB.out _).mono ?_; rintro e w1 ⟨rfl, hb1⟩)
            rw [HQ.out]
            unfold ParsePost
            rw [HN.out]
            exact ⟨⟨_, rfl, fun v hv => by cases hv⟩, hb1⟩
        · have hlt' : ¬ (k : Int) < (s.size : Int) := by omega
          go_wp2_with (go_at_call 44; refine (CB.out _).mono ?_; rintro e w1 ⟨rfl, hb1⟩)
          rw [HQ.out]
          unfold ParsePost
          rw [HN.out]
          exact ⟨⟨_, rfl, fun v hv => by cases hv⟩, hb1⟩
      | some b =>
        have hlv := Hlv.out
        simp only at hlv
        have hb48 := hBb b rfl
        by_cases hlt : k < s.size
        · have hsg2 : isSign (s[k]'hlt) = true := by
            obtain ⟨b, h1, h2⟩ := signAt_there s.data.toList (by rw [Hkk.out, ← size_eq]; exact hlt)
            rw [Hkk.out, at_list s k hlt] at h1
            rw [Option.some.inj h1]; exact h2
          have hdl : s.data.toList.drop k = (s[k]'hlt) :: s.data.toList.drop (k + 1) := by
            have hkl : k < s.data.toList.length := by rw [← size_eq]; exact hlt
            rw [List.drop_eq_getElem_cons hkl]
            rfl
          rw [if_neg (by rw [← size_eq]; omega), hdl, ← numSpec_eq _ _ hsg2, ← hdl] at hlv
          have cN := fun wx => number_any (s.extract k s.size) (s[k]'hlt) (s.data.toList.drop (k + 1)) (by rw [ext_drop]; exact hdl) (by rw [size_eq, ext_drop, List.length_drop, ← size_eq]; omega) hsg2 wx
          unfold NumPost at cN
          rw [ext_drop] at cN
          have hlt' : (k : Int) < (s.size : Int) := by omega
          have hne : ((k : Int) == (s.size : Int)) = false := by rw [beq_eq_false_iff_ne]; omega
          obtain ⟨V, hV⟩ : ∃ V, V = numSpec (s.data.toList.drop k) := ⟨_, rfl⟩
          rw [← hV] at cN hlv
          have CN := Lib.hid cN
          have HN := Lib.hid hlv
          unfold isSign at hsg2
          simp only [Bool.or_eq_true, beq_iff_eq] at hsg2
          clear hdl hV cN hlv
          rcases hsg2 with h43 | h45
          all_goals
            go_wp2_with (first
              | (go_at_call 44; refine (CB.out _).mono ?_; rintro e w1 ⟨rfl, hb1⟩)
              | (go_at_call 45; refine (CN.out _).mono ?_; rintro e w2 ⟨rfl, rfl⟩))
            rw [HQ.out]
            unfold ParsePost
            rw [HN.out]
            rw [Option.isSome_map]
            refine ⟨⟨_, rfl, fun v hv => ?_⟩, hb1⟩
            cases V with
            | none => cases hv
            | some v' =>
              simp only [Option.map_some, Option.some.injEq] at hv
              subst hv
              simp [IntKind.wrap_i64, wrap64]
        · have hlt' : ¬ (k : Int) < (s.size : Int) := by omega
          have hke : k = s.size := by omega
          rw [if_pos (by rw [← size_eq]; exact hke)] at hlv
          have heq : ((k : Int) == (s.size : Int)) = true := by rw [beq_iff_eq]; omega
          have HN := Lib.hid hlv
          clear hlv hke
          go_wp2_with (go_at_call 44; refine (CB.out _).mono ?_; rintro e w1 ⟨rfl, hb1⟩)
          rw [HQ.out]
          unfold ParsePost
          rw [HN.out]
          exact ⟨⟨b, rfl, fun v hv => Option.some.inj hv⟩, hb1⟩

/-- spec.LvParsed. -/
def ParsedPost (l : List UInt8) (was : Int) (w : World) (e : Ending) (w' : World) : Prop :=
  e = .returned (.tuple #[.int .i64 ((levelOf l).getD was), .bool (levelOf l).isSome]) ∧ Below w.heap.size w w'

set_option maxRecDepth 100000 in
set_option maxHeartbeats 2000000 in
theorem parsed_any (s : ByteArray) (was : Int) (hs : s.size ≤ 1000000) (ha : ∀ b ∈ s.data.toList, b.toNat < 128) (w : World) : Calls Tryd.prog 19 #[.string s, .int .i64 was] w (ParsedPost s.data.toList was w) := by
  unfold ParsedPost
  have cP := fun wx => parse_any s hs ha wx
  unfold ParsePost at cP
  obtain ⟨V, hV⟩ : ∃ V, V = levelOf s.data.toList := ⟨_, rfl⟩
  rw [← hV] at cP ⊢
  have CP := Lib.hid cP
  clear hV cP
  cases V with
  | none =>
    go_enter Tryd.func19, Tryd.ntmps19
    go_wp2_with (go_at_call 31; refine (CP.out _).mono ?_; rintro e w1 ⟨⟨x, rfl, hx⟩, hb1⟩; clear hx)
    go_ret2
    exact ⟨rfl, hb1⟩
  | some v =>
    go_enter Tryd.func19, Tryd.ntmps19
    go_wp2_with (go_at_call 31; refine (CP.out _).mono ?_; rintro e w1 ⟨⟨x, rfl, hx⟩, hb1⟩; obtain rfl := hx v rfl; clear hx)
    go_ret2
    exact ⟨rfl, hb1⟩

end Go.Proofs.YtconeignnananaaDoor.Lv

/- FnLvOffset: the walk. -/
import Derived.Test.YtconeignnananaaDoorLvS
namespace Go.Proofs.YtconeignnananaaDoor.Lv
set_option linter.unusedVariables false
set_option linter.unusedSimpArgs false
open Go Go.Lib Go.RowKit

theorem simpleU {b : UInt8} (h : isSimple b = true) : b.toNat < 128 ∧ b ≠ 34 ∧ b ≠ 92 ∧ b ≠ 10 := by
  have h2 := (simple_iff b).1 h
  refine ⟨by omega, ?_, ?_, ?_⟩ <;> (rintro rfl; revert h2; decide)

theorem letter_simple {l : List UInt8} {b : Int} (h : baseUp (l.map upA) = some b) : ∀ c ∈ l, isSimple c = true := fun c hc => by
  have := upA_letter (baseUp_letters h (upA c) (List.mem_map_of_mem hc))
  unfold isSimple
  rw [this]
  rfl
theorem off_simple (v : Int) : ∀ c ∈ offText v, isSimple c = true := fun c hc => by
  rcases off_mem v c hc with h | h
  · unfold isSimple; rw [h]; simp
  · unfold isSimple; simp [h]
theorem off_length (v : Int) (h0 : -9223372036854775808 ≤ v) (h1 : v ≤ 9223372036854775807) : (offText v).length ≤ 22 := by
  have := itoa_length_le v h0 h1
  unfold offText
  split
  · simp; omega
  · omega

/-- What both readers say of a name and an offset. -/
theorem both_off (T : ByteArray) (l : List UInt8) (b v was : Int) (hT : T.data.toList = l ++ offText v) (hl : l.length ≤ 100) (hb : baseUp (l.map upA) = some b) (h0 : -9223372036854775808 ≤ v) (h1 : v ≤ 9223372036854775807) :
    (∀ w, Env w → Calls Tryd.prog 11 #[.string T, .int .i64 was] w fun e w' => e = .returned (.tuple #[.int .i64 (wrap64 (b + v)), .bool true]) ∧ Below w.heap.size w w') ∧
    (∀ w, Env w → Calls Tryd.prog 12 #[.string (inMarks T), .int .i64 was] w fun e w' => e = .returned (.tuple #[.int .i64 (wrap64 (b + v)), .bool true]) ∧ Below w.heap.size w w') := by
  have hz : T.size ≤ 1000000 := by
    have := off_length v h0 h1
    rw [size_eq, hT, List.length_append]; omega
  have hlv : levelOf T.data.toList = some (IntKind.i64.wrap (b + v)) := by rw [hT]; exact level_off l b v hb h0 h1
  have hs : ∀ c ∈ T.data.toList, isSimple c = true := fun c hc => by
    rw [hT] at hc
    rcases List.mem_append.1 hc with hc | hc
    · exact letter_simple hb c hc
    · exact off_simple v c hc
  have hw : IntKind.i64.wrap (b + v) = wrap64 (b + v) := by simp [IntKind.wrap_i64, wrap64]
  rw [hw] at hlv
  refine ⟨fun w hE => ?_, fun w hE => ?_⟩
  · have h := levelParse_any T was hz (fun c hc => (simpleU (hs c hc)).1) w hE
    unfold ParsedPost at h
    rw [hlv] at h
    exact h
  · have h := parseJSON_any T was hz (fun c hc => simpleU (hs c hc)) w hE
    unfold ParsedPost at h
    rw [hlv] at h
    exact h

set_option maxRecDepth 100000 in
set_option maxHeartbeats 1000000 in
theorem off_0p (x v was f : Int) (w : World) (hx : 0 ≤ x ∧ x ≤ 255) (e : x % 4 = 0) (hv : 0 ≤ v) (h0 : -9223372036854775808 ≤ v) (h1 : v ≤ 9223372036854775807) (hf : 0 ≤ f ∧ f ≤ 18446744073709551615) (hE : Env w) (hP : Pow w) :
    Calls Tryd.prog 3 #[.int .u8 x, .int .i64 v, .int .i64 was, .int .u64 f] w fun e w' => e = .returned (.bool true) ∧ Below w.heap.size w w' := by
  have cI := fun wx hp => itoa_any v h0 h1 wx hp
  have HE := Lib.hid hE
  have HP := Lib.hid hP
  have CI := Lib.hid cI
  clear hE hP cI
  have isz := itoaB_size v h0 h1
  have ho : offText v = (43 : UInt8) :: itoa v := by unfold offText; rw [if_pos hv]
  have Ho := Lib.hid ho
  have CC := Lib.hid (fun wx => cased_any ⟨#[100, 101, 98, 117, 103]⟩ (by decide) f hf.1 hf.2 wx)
  have H0 := Lib.hid (And.intro h0 h1)
  have n1 : ¬ 9223372036854775807 < 1 + (itoaB v).size := by omega
  clear ho
  go_enter Tryd.func3, Tryd.ntmps3
  go_wp2_with (first
    | (go_at_call 9; refine (CI.out _ HP.out).mono ?_; rintro e w1 ⟨rfl, hb1⟩; have HB1 := Lib.hid hb1; clear hb1)
    | (go_at_call 10; refine (CC.out _).mono ?_; rintro e w2 ⟨⟨l, rfl, hl⟩, hb2⟩; have HB2 := Lib.hid (below_then HB1.out hb2); have hll : l.length = 5 := (by have := congrArg List.length hl; simpa using this); obtain ⟨cA, cB⟩ := both_off (⟨l.toArray⟩ ++ (⟨#[43]⟩ ++ itoaB v)) l (-4) v was (by rw [Ho.out]; simp only [ByteArray.toList_data_append, toList_itoaB] <;> rfl) (by omega) (by rw [hl]; decide) H0.out.1 H0.out.2; unfold inMarks at cB; have CA := Lib.hid cA; have CB := Lib.hid cB; clear hb2 hl cA cB; have n2 : ¬ 9223372036854775807 < l.length + (1 + (itoaB v).size) := (by omega); have n3 : ¬ 9223372036854775807 < 1 + (l.length + (1 + (itoaB v).size)) := (by omega); have n4 : ¬ 9223372036854775807 < 1 + (l.length + (1 + (itoaB v).size)) + 1 := (by omega))
    | (go_at_call 11; refine (CA.out _ (HE.out.on HB2.out)).mono ?_; rintro e w3 ⟨rfl, hb3⟩; have HB3 := Lib.hid (below_then HB2.out hb3); clear hb3)
    | (go_at_call 12; refine (CB.out _ (HE.out.on HB3.out)).mono ?_; rintro e w4 ⟨rfl, hb4⟩; have HB4 := Lib.hid (below_then HB3.out hb4); clear hb4))
  all_goals first
    | (go_ret
       refine ⟨?_, HB4.out⟩
       first | rfl | (simp; done))
    | (exfalso
       rename_i hne
       exact hne (by unfold wrap64; omega))

set_option maxRecDepth 100000 in
set_option maxHeartbeats 1000000 in
theorem off_0m (x v was f : Int) (w : World) (hx : 0 ≤ x ∧ x ≤ 255) (e : x % 4 = 0) (hv : v < 0) (h0 : -9223372036854775808 ≤ v) (h1 : v ≤ 9223372036854775807) (hf : 0 ≤ f ∧ f ≤ 18446744073709551615) (hE : Env w) (hP : Pow w) :
    Calls Tryd.prog 3 #[.int .u8 x, .int .i64 v, .int .i64 was, .int .u64 f] w fun e w' => e = .returned (.bool true) ∧ Below w.heap.size w w' := by
  have cI := fun wx hp => itoa_any v h0 h1 wx hp
  have HE := Lib.hid hE
  have HP := Lib.hid hP
  have CI := Lib.hid cI
  clear hE hP cI
  have isz := itoaB_size v h0 h1
  have ho : offText v = itoa v := by unfold offText; rw [if_neg (by omega)]
  have Ho := Lib.hid ho
  have CC := Lib.hid (fun wx => cased_any ⟨#[100, 101, 98, 117, 103]⟩ (by decide) f hf.1 hf.2 wx)
  have H0 := Lib.hid (And.intro h0 h1)
  have n1 : ¬ 9223372036854775807 < 1 + (itoaB v).size := by omega
  clear ho
  go_enter Tryd.func3, Tryd.ntmps3
  go_wp2_with (first
    | (go_at_call 9; refine (CI.out _ HP.out).mono ?_; rintro e w1 ⟨rfl, hb1⟩; have HB1 := Lib.hid hb1; clear hb1)
    | (go_at_call 10; refine (CC.out _).mono ?_; rintro e w2 ⟨⟨l, rfl, hl⟩, hb2⟩; have HB2 := Lib.hid (below_then HB1.out hb2); have hll : l.length = 5 := (by have := congrArg List.length hl; simpa using this); obtain ⟨cA, cB⟩ := both_off (⟨l.toArray⟩ ++ itoaB v) l (-4) v was (by rw [Ho.out]; simp only [ByteArray.toList_data_append, toList_itoaB] <;> rfl) (by omega) (by rw [hl]; decide) H0.out.1 H0.out.2; unfold inMarks at cB; have CA := Lib.hid cA; have CB := Lib.hid cB; clear hb2 hl cA cB; have n2 : ¬ 9223372036854775807 < l.length + (itoaB v).size := (by omega); have n3 : ¬ 9223372036854775807 < 1 + (l.length + (itoaB v).size) := (by omega); have n4 : ¬ 9223372036854775807 < 1 + (l.length + (itoaB v).size) + 1 := (by omega))
    | (go_at_call 11; refine (CA.out _ (HE.out.on HB2.out)).mono ?_; rintro e w3 ⟨rfl, hb3⟩; have HB3 := Lib.hid (below_then HB2.out hb3); clear hb3)
    | (go_at_call 12; refine (CB.out _ (HE.out.on HB3.out)).mono ?_; rintro e w4 ⟨rfl, hb4⟩; have HB4 := Lib.hid (below_then HB3.out hb4); clear hb4))
  all_goals first
    | (go_ret
       refine ⟨?_, HB4.out⟩
       first | rfl | (simp; done))
    | (exfalso
       rename_i hne
       exact hne (by unfold wrap64; omega))

set_option maxRecDepth 100000 in
set_option maxHeartbeats 1000000 in
theorem off_1p (x v was f : Int) (w : World) (hx : 0 ≤ x ∧ x ≤ 255) (e : x % 4 = 1) (hv : 0 ≤ v) (h0 : -9223372036854775808 ≤ v) (h1 : v ≤ 9223372036854775807) (hf : 0 ≤ f ∧ f ≤ 18446744073709551615) (hE : Env w) (hP : Pow w) :
    Calls Tryd.prog 3 #[.int .u8 x, .int .i64 v, .int .i64 was, .int .u64 f] w fun e w' => e = .returned (.bool true) ∧ Below w.heap.size w w' := by
  have cI := fun wx hp => itoa_any v h0 h1 wx hp
  have HE := Lib.hid hE
  have HP := Lib.hid hP
  have CI := Lib.hid cI
  clear hE hP cI
  have isz := itoaB_size v h0 h1
  have ho : offText v = (43 : UInt8) :: itoa v := by unfold offText; rw [if_pos hv]
  have Ho := Lib.hid ho
  have CC := Lib.hid (fun wx => cased_any ⟨#[73, 78, 70, 79]⟩ (by decide) f hf.1 hf.2 wx)
  have H0 := Lib.hid (And.intro h0 h1)
  have n1 : ¬ 9223372036854775807 < 1 + (itoaB v).size := by omega
  clear ho
  go_enter Tryd.func3, Tryd.ntmps3
  go_wp2_with (first
    | (go_at_call 9; refine (CI.out _ HP.out).mono ?_; rintro e w1 ⟨rfl, hb1⟩; have HB1 := Lib.hid hb1; clear hb1)
    | (go_at_call 10; refine (CC.out _).mono ?_; rintro e w2 ⟨⟨l, rfl, hl⟩, hb2⟩; have HB2 := Lib.hid (below_then HB1.out hb2); have hll : l.length = 4 := (by have := congrArg List.length hl; simpa using this); obtain ⟨cA, cB⟩ := both_off (⟨l.toArray⟩ ++ (⟨#[43]⟩ ++ itoaB v)) l (0) v was (by rw [Ho.out]; simp only [ByteArray.toList_data_append, toList_itoaB] <;> rfl) (by omega) (by rw [hl]; decide) H0.out.1 H0.out.2; unfold inMarks at cB; have CA := Lib.hid cA; have CB := Lib.hid cB; clear hb2 hl cA cB; have n2 : ¬ 9223372036854775807 < l.length + (1 + (itoaB v).size) := (by omega); have n3 : ¬ 9223372036854775807 < 1 + (l.length + (1 + (itoaB v).size)) := (by omega); have n4 : ¬ 9223372036854775807 < 1 + (l.length + (1 + (itoaB v).size)) + 1 := (by omega))
    | (go_at_call 11; refine (CA.out _ (HE.out.on HB2.out)).mono ?_; rintro e w3 ⟨rfl, hb3⟩; have HB3 := Lib.hid (below_then HB2.out hb3); clear hb3)
    | (go_at_call 12; refine (CB.out _ (HE.out.on HB3.out)).mono ?_; rintro e w4 ⟨rfl, hb4⟩; have HB4 := Lib.hid (below_then HB3.out hb4); clear hb4))
  all_goals first
    | (go_ret
       refine ⟨?_, HB4.out⟩
       first | rfl | (simp; done))
    | (exfalso
       rename_i hne
       exact hne (by unfold wrap64; omega))

set_option maxRecDepth 100000 in
set_option maxHeartbeats 1000000 in
theorem off_1m (x v was f : Int) (w : World) (hx : 0 ≤ x ∧ x ≤ 255) (e : x % 4 = 1) (hv : v < 0) (h0 : -9223372036854775808 ≤ v) (h1 : v ≤ 9223372036854775807) (hf : 0 ≤ f ∧ f ≤ 18446744073709551615) (hE : Env w) (hP : Pow w) :
    Calls Tryd.prog 3 #[.int .u8 x, .int .i64 v, .int .i64 was, .int .u64 f] w fun e w' => e = .returned (.bool true) ∧ Below w.heap.size w w' := by
  have cI := fun wx hp => itoa_any v h0 h1 wx hp
  have HE := Lib.hid hE
  have HP := Lib.hid hP
  have CI := Lib.hid cI
  clear hE hP cI
  have isz := itoaB_size v h0 h1
  have ho : offText v = itoa v := by unfold offText; rw [if_neg (by omega)]
  have Ho := Lib.hid ho
  have CC := Lib.hid (fun wx => cased_any ⟨#[73, 78, 70, 79]⟩ (by decide) f hf.1 hf.2 wx)
  have H0 := Lib.hid (And.intro h0 h1)
  have n1 : ¬ 9223372036854775807 < 1 + (itoaB v).size := by omega
  clear ho
  go_enter Tryd.func3, Tryd.ntmps3
  go_wp2_with (first
    | (go_at_call 9; refine (CI.out _ HP.out).mono ?_; rintro e w1 ⟨rfl, hb1⟩; have HB1 := Lib.hid hb1; clear hb1)
    | (go_at_call 10; refine (CC.out _).mono ?_; rintro e w2 ⟨⟨l, rfl, hl⟩, hb2⟩; have HB2 := Lib.hid (below_then HB1.out hb2); have hll : l.length = 4 := (by have := congrArg List.length hl; simpa using this); obtain ⟨cA, cB⟩ := both_off (⟨l.toArray⟩ ++ itoaB v) l (0) v was (by rw [Ho.out]; simp only [ByteArray.toList_data_append, toList_itoaB] <;> rfl) (by omega) (by rw [hl]; decide) H0.out.1 H0.out.2; unfold inMarks at cB; have CA := Lib.hid cA; have CB := Lib.hid cB; clear hb2 hl cA cB; have n2 : ¬ 9223372036854775807 < l.length + (itoaB v).size := (by omega); have n3 : ¬ 9223372036854775807 < 1 + (l.length + (itoaB v).size) := (by omega); have n4 : ¬ 9223372036854775807 < 1 + (l.length + (itoaB v).size) + 1 := (by omega))
    | (go_at_call 11; refine (CA.out _ (HE.out.on HB2.out)).mono ?_; rintro e w3 ⟨rfl, hb3⟩; have HB3 := Lib.hid (below_then HB2.out hb3); clear hb3)
    | (go_at_call 12; refine (CB.out _ (HE.out.on HB3.out)).mono ?_; rintro e w4 ⟨rfl, hb4⟩; have HB4 := Lib.hid (below_then HB3.out hb4); clear hb4))
  all_goals first
    | (go_ret
       refine ⟨?_, HB4.out⟩
       first | rfl | (simp; done))
    | (exfalso
       rename_i hne
       exact hne (by unfold wrap64; omega))

set_option maxRecDepth 100000 in
set_option maxHeartbeats 1000000 in
theorem off_2p (x v was f : Int) (w : World) (hx : 0 ≤ x ∧ x ≤ 255) (e : x % 4 = 2) (hv : 0 ≤ v) (h0 : -9223372036854775808 ≤ v) (h1 : v ≤ 9223372036854775807) (hf : 0 ≤ f ∧ f ≤ 18446744073709551615) (hE : Env w) (hP : Pow w) :
    Calls Tryd.prog 3 #[.int .u8 x, .int .i64 v, .int .i64 was, .int .u64 f] w fun e w' => e = .returned (.bool true) ∧ Below w.heap.size w w' := by
  have cI := fun wx hp => itoa_any v h0 h1 wx hp
  have HE := Lib.hid hE
  have HP := Lib.hid hP
  have CI := Lib.hid cI
  clear hE hP cI
  have isz := itoaB_size v h0 h1
  have ho : offText v = (43 : UInt8) :: itoa v := by unfold offText; rw [if_pos hv]
  have Ho := Lib.hid ho
  have CC := Lib.hid (fun wx => cased_any ⟨#[87, 97, 114, 110]⟩ (by decide) f hf.1 hf.2 wx)
  have H0 := Lib.hid (And.intro h0 h1)
  have n1 : ¬ 9223372036854775807 < 1 + (itoaB v).size := by omega
  clear ho
  go_enter Tryd.func3, Tryd.ntmps3
  go_wp2_with (first
    | (go_at_call 9; refine (CI.out _ HP.out).mono ?_; rintro e w1 ⟨rfl, hb1⟩; have HB1 := Lib.hid hb1; clear hb1)
    | (go_at_call 10; refine (CC.out _).mono ?_; rintro e w2 ⟨⟨l, rfl, hl⟩, hb2⟩; have HB2 := Lib.hid (below_then HB1.out hb2); have hll : l.length = 4 := (by have := congrArg List.length hl; simpa using this); obtain ⟨cA, cB⟩ := both_off (⟨l.toArray⟩ ++ (⟨#[43]⟩ ++ itoaB v)) l (4) v was (by rw [Ho.out]; simp only [ByteArray.toList_data_append, toList_itoaB] <;> rfl) (by omega) (by rw [hl]; decide) H0.out.1 H0.out.2; unfold inMarks at cB; have CA := Lib.hid cA; have CB := Lib.hid cB; clear hb2 hl cA cB; have n2 : ¬ 9223372036854775807 < l.length + (1 + (itoaB v).size) := (by omega); have n3 : ¬ 9223372036854775807 < 1 + (l.length + (1 + (itoaB v).size)) := (by omega); have n4 : ¬ 9223372036854775807 < 1 + (l.length + (1 + (itoaB v).size)) + 1 := (by omega))
    | (go_at_call 11; refine (CA.out _ (HE.out.on HB2.out)).mono ?_; rintro e w3 ⟨rfl, hb3⟩; have HB3 := Lib.hid (below_then HB2.out hb3); clear hb3)
    | (go_at_call 12; refine (CB.out _ (HE.out.on HB3.out)).mono ?_; rintro e w4 ⟨rfl, hb4⟩; have HB4 := Lib.hid (below_then HB3.out hb4); clear hb4))
  all_goals first
    | (go_ret
       refine ⟨?_, HB4.out⟩
       first | rfl | (simp; done))
    | (exfalso
       rename_i hne
       exact hne (by unfold wrap64; omega))

set_option maxRecDepth 100000 in
set_option maxHeartbeats 1000000 in
theorem off_2m (x v was f : Int) (w : World) (hx : 0 ≤ x ∧ x ≤ 255) (e : x % 4 = 2) (hv : v < 0) (h0 : -9223372036854775808 ≤ v) (h1 : v ≤ 9223372036854775807) (hf : 0 ≤ f ∧ f ≤ 18446744073709551615) (hE : Env w) (hP : Pow w) :
    Calls Tryd.prog 3 #[.int .u8 x, .int .i64 v, .int .i64 was, .int .u64 f] w fun e w' => e = .returned (.bool true) ∧ Below w.heap.size w w' := by
  have cI := fun wx hp => itoa_any v h0 h1 wx hp
  have HE := Lib.hid hE
  have HP := Lib.hid hP
  have CI := Lib.hid cI
  clear hE hP cI
  have isz := itoaB_size v h0 h1
  have ho : offText v = itoa v := by unfold offText; rw [if_neg (by omega)]
  have Ho := Lib.hid ho
  have CC := Lib.hid (fun wx => cased_any ⟨#[87, 97, 114, 110]⟩ (by decide) f hf.1 hf.2 wx)
  have H0 := Lib.hid (And.intro h0 h1)
  have n1 : ¬ 9223372036854775807 < 1 + (itoaB v).size := by omega
  clear ho
  go_enter Tryd.func3, Tryd.ntmps3
  go_wp2_with (first
    | (go_at_call 9; refine (CI.out _ HP.out).mono ?_; rintro e w1 ⟨rfl, hb1⟩; have HB1 := Lib.hid hb1; clear hb1)
    | (go_at_call 10; refine (CC.out _).mono ?_; rintro e w2 ⟨⟨l, rfl, hl⟩, hb2⟩; have HB2 := Lib.hid (below_then HB1.out hb2); have hll : l.length = 4 := (by have := congrArg List.length hl; simpa using this); obtain ⟨cA, cB⟩ := both_off (⟨l.toArray⟩ ++ itoaB v) l (4) v was (by rw [Ho.out]; simp only [ByteArray.toList_data_append, toList_itoaB] <;> rfl) (by omega) (by rw [hl]; decide) H0.out.1 H0.out.2; unfold inMarks at cB; have CA := Lib.hid cA; have CB := Lib.hid cB; clear hb2 hl cA cB; have n2 : ¬ 9223372036854775807 < l.length + (itoaB v).size := (by omega); have n3 : ¬ 9223372036854775807 < 1 + (l.length + (itoaB v).size) := (by omega); have n4 : ¬ 9223372036854775807 < 1 + (l.length + (itoaB v).size) + 1 := (by omega))
    | (go_at_call 11; refine (CA.out _ (HE.out.on HB2.out)).mono ?_; rintro e w3 ⟨rfl, hb3⟩; have HB3 := Lib.hid (below_then HB2.out hb3); clear hb3)
    | (go_at_call 12; refine (CB.out _ (HE.out.on HB3.out)).mono ?_; rintro e w4 ⟨rfl, hb4⟩; have HB4 := Lib.hid (below_then HB3.out hb4); clear hb4))
  all_goals first
    | (go_ret
       refine ⟨?_, HB4.out⟩
       first | rfl | (simp; done))
    | (exfalso
       rename_i hne
       exact hne (by unfold wrap64; omega))

set_option maxRecDepth 100000 in
set_option maxHeartbeats 1000000 in
theorem off_3p (x v was f : Int) (w : World) (hx : 0 ≤ x ∧ x ≤ 255) (e : x % 4 = 3) (hv : 0 ≤ v) (h0 : -9223372036854775808 ≤ v) (h1 : v ≤ 9223372036854775807) (hf : 0 ≤ f ∧ f ≤ 18446744073709551615) (hE : Env w) (hP : Pow w) :
    Calls Tryd.prog 3 #[.int .u8 x, .int .i64 v, .int .i64 was, .int .u64 f] w fun e w' => e = .returned (.bool true) ∧ Below w.heap.size w w' := by
  have cI := fun wx hp => itoa_any v h0 h1 wx hp
  have HE := Lib.hid hE
  have HP := Lib.hid hP
  have CI := Lib.hid cI
  clear hE hP cI
  have isz := itoaB_size v h0 h1
  have ho : offText v = (43 : UInt8) :: itoa v := by unfold offText; rw [if_pos hv]
  have Ho := Lib.hid ho
  have CC := Lib.hid (fun wx => cased_any ⟨#[101, 82, 82, 79, 82]⟩ (by decide) f hf.1 hf.2 wx)
  have H0 := Lib.hid (And.intro h0 h1)
  have n1 : ¬ 9223372036854775807 < 1 + (itoaB v).size := by omega
  clear ho
  go_enter Tryd.func3, Tryd.ntmps3
  go_wp2_with (first
    | (go_at_call 9; refine (CI.out _ HP.out).mono ?_; rintro e w1 ⟨rfl, hb1⟩; have HB1 := Lib.hid hb1; clear hb1)
    | (go_at_call 10; refine (CC.out _).mono ?_; rintro e w2 ⟨⟨l, rfl, hl⟩, hb2⟩; have HB2 := Lib.hid (below_then HB1.out hb2); have hll : l.length = 5 := (by have := congrArg List.length hl; simpa using this); obtain ⟨cA, cB⟩ := both_off (⟨l.toArray⟩ ++ (⟨#[43]⟩ ++ itoaB v)) l (8) v was (by rw [Ho.out]; simp only [ByteArray.toList_data_append, toList_itoaB] <;> rfl) (by omega) (by rw [hl]; decide) H0.out.1 H0.out.2; unfold inMarks at cB; have CA := Lib.hid cA; have CB := Lib.hid cB; clear hb2 hl cA cB; have n2 : ¬ 9223372036854775807 < l.length + (1 + (itoaB v).size) := (by omega); have n3 : ¬ 9223372036854775807 < 1 + (l.length + (1 + (itoaB v).size)) := (by omega); have n4 : ¬ 9223372036854775807 < 1 + (l.length + (1 + (itoaB v).size)) + 1 := (by omega))
    | (go_at_call 11; refine (CA.out _ (HE.out.on HB2.out)).mono ?_; rintro e w3 ⟨rfl, hb3⟩; have HB3 := Lib.hid (below_then HB2.out hb3); clear hb3)
    | (go_at_call 12; refine (CB.out _ (HE.out.on HB3.out)).mono ?_; rintro e w4 ⟨rfl, hb4⟩; have HB4 := Lib.hid (below_then HB3.out hb4); clear hb4))
  all_goals first
    | (go_ret
       refine ⟨?_, HB4.out⟩
       first | rfl | (simp; done))
    | (exfalso
       rename_i hne
       exact hne (by unfold wrap64; omega))

set_option maxRecDepth 100000 in
set_option maxHeartbeats 1000000 in
theorem off_3m (x v was f : Int) (w : World) (hx : 0 ≤ x ∧ x ≤ 255) (e : x % 4 = 3) (hv : v < 0) (h0 : -9223372036854775808 ≤ v) (h1 : v ≤ 9223372036854775807) (hf : 0 ≤ f ∧ f ≤ 18446744073709551615) (hE : Env w) (hP : Pow w) :
    Calls Tryd.prog 3 #[.int .u8 x, .int .i64 v, .int .i64 was, .int .u64 f] w fun e w' => e = .returned (.bool true) ∧ Below w.heap.size w w' := by
  have cI := fun wx hp => itoa_any v h0 h1 wx hp
  have HE := Lib.hid hE
  have HP := Lib.hid hP
  have CI := Lib.hid cI
  clear hE hP cI
  have isz := itoaB_size v h0 h1
  have ho : offText v = itoa v := by unfold offText; rw [if_neg (by omega)]
  have Ho := Lib.hid ho
  have CC := Lib.hid (fun wx => cased_any ⟨#[101, 82, 82, 79, 82]⟩ (by decide) f hf.1 hf.2 wx)
  have H0 := Lib.hid (And.intro h0 h1)
  have n1 : ¬ 9223372036854775807 < 1 + (itoaB v).size := by omega
  clear ho
  go_enter Tryd.func3, Tryd.ntmps3
  go_wp2_with (first
    | (go_at_call 9; refine (CI.out _ HP.out).mono ?_; rintro e w1 ⟨rfl, hb1⟩; have HB1 := Lib.hid hb1; clear hb1)
    | (go_at_call 10; refine (CC.out _).mono ?_; rintro e w2 ⟨⟨l, rfl, hl⟩, hb2⟩; have HB2 := Lib.hid (below_then HB1.out hb2); have hll : l.length = 5 := (by have := congrArg List.length hl; simpa using this); obtain ⟨cA, cB⟩ := both_off (⟨l.toArray⟩ ++ itoaB v) l (8) v was (by rw [Ho.out]; simp only [ByteArray.toList_data_append, toList_itoaB] <;> rfl) (by omega) (by rw [hl]; decide) H0.out.1 H0.out.2; unfold inMarks at cB; have CA := Lib.hid cA; have CB := Lib.hid cB; clear hb2 hl cA cB; have n2 : ¬ 9223372036854775807 < l.length + (itoaB v).size := (by omega); have n3 : ¬ 9223372036854775807 < 1 + (l.length + (itoaB v).size) := (by omega); have n4 : ¬ 9223372036854775807 < 1 + (l.length + (itoaB v).size) + 1 := (by omega))
    | (go_at_call 11; refine (CA.out _ (HE.out.on HB2.out)).mono ?_; rintro e w3 ⟨rfl, hb3⟩; have HB3 := Lib.hid (below_then HB2.out hb3); clear hb3)
    | (go_at_call 12; refine (CB.out _ (HE.out.on HB3.out)).mono ?_; rintro e w4 ⟨rfl, hb4⟩; have HB4 := Lib.hid (below_then HB3.out hb4); clear hb4))
  all_goals first
    | (go_ret
       refine ⟨?_, HB4.out⟩
       first | rfl | (simp; done))
    | (exfalso
       rename_i hne
       exact hne (by unfold wrap64; omega))

theorem off_any (x v was f : Int) (w : World) (hx : 0 ≤ x ∧ x ≤ 255) (h0 : -9223372036854775808 ≤ v) (h1 : v ≤ 9223372036854775807) (hf : 0 ≤ f ∧ f ≤ 18446744073709551615) (hE : Env w) (hP : Pow w) :
    Calls Tryd.prog 3 #[.int .u8 x, .int .i64 v, .int .i64 was, .int .u64 f] w fun e w' => e = .returned (.bool true) ∧ Below w.heap.size w w' := by
  have hx4 : x % 4 = 0 ∨ x % 4 = 1 ∨ x % 4 = 2 ∨ x % 4 = 3 := by omega
  by_cases hv : 0 ≤ v
  · rcases hx4 with e | e | e | e
    · exact off_0p x v was f w hx e hv h0 h1 hf hE hP
    · exact off_1p x v was f w hx e hv h0 h1 hf hE hP
    · exact off_2p x v was f w hx e hv h0 h1 hf hE hP
    · exact off_3p x v was f w hx e hv h0 h1 hf hE hP
  · rcases hx4 with e | e | e | e
    · exact off_0m x v was f w hx e (by omega) h0 h1 hf hE hP
    · exact off_1m x v was f w hx e (by omega) h0 h1 hf hE hP
    · exact off_2m x v was f w hx e (by omega) h0 h1 hf hE hP
    · exact off_3m x v was f w hx e (by omega) h0 h1 hf hE hP

end Go.Proofs.YtconeignnananaaDoor.Lv

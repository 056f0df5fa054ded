/- UnmarshalJSON of a text of letters, digits and signs in quotation marks is UnmarshalText of the text, and without them there is an error: FnLvParseJSON answers true for every text and every level. The variables that strconv and unicode read lie as the program's text lays them. -/
import Derived.Test.YtconeignnananaaDoorLvQ
namespace Go.Proofs.YtconeignnananaaDoor.LvJSON
set_option linter.unusedVariables false
set_option linter.unusedSimpArgs false
open Go Go.Lib Go.RowKit Go.Proofs.YtconeignnananaaDoor.Lv

theorem simple_small {b : UInt8} (h : isSimple b = true) : b.toNat < 128 ∧ b ≠ 34 ∧ b ≠ 92 ∧ b ≠ 10 ∧ b ≠ 39 ∧ b ≠ 96 := by
  have h2 := (simple_iff b).1 h
  refine ⟨by omega, ?_, ?_, ?_, ?_, ?_⟩ <;> (rintro rfl; revert h2; decide)

set_option maxRecDepth 100000 in
set_option maxHeartbeats 1000000 in
theorem law_in (s : ByteArray) (was : Int) (w : World) (hs : s.size ≤ 65536) (ha : s.data.toList.all isSimple = true) (hE : Env w) :
    Calls Tryd.prog 8 #[.string s, .int .i64 was] w fun e w' => e = .returned (.bool true) ∧ Below w.heap.size w w' := by
  have g1 : ¬ ((s.size : Int) > 2147483647) := by omega
  have g2 : ¬ ((s.size : Int) > 65536) := by omega
  have n1 : ¬ 9223372036854775807 < 1 + s.size := by omega
  have n2 : ¬ 9223372036854775807 < 1 + s.size + 1 := by omega
  have cP := fun wx => simple_any s (by omega) wx
  have hb := fun b hm => simple_small (List.all_eq_true.1 ha b hm)
  rw [ha] at cP
  have cA := fun wx => parsed_any s was (by omega) (fun b hm => (hb b hm).1) wx
  have cB := fun wx => parseJSON_any s was (by omega) (fun b hm => ⟨(hb b hm).1, (hb b hm).2.1, (hb b hm).2.2.1, (hb b hm).2.2.2.1⟩) wx
  have cC := fun wx => parseJSON_bare s was (by omega) (fun hz => by
    have h := hb (s[0]'hz) (List.mem_of_getElem? (at_list s 0 hz))
    exact ⟨h.2.1, h.2.2.2.2.1, h.2.2.2.2.2⟩) wx
  unfold inMarks at cB
  unfold ParsedPost at cA cB
  generalize levelOf s.data.toList = L at cA cB
  have CA := Lib.hid cA
  have CB := Lib.hid cB
  have CC := Lib.hid cC
  have CP := Lib.hid cP
  have HE := Lib.hid hE
  clear cA cB cC cP hE ha hb
  go_enter Tryd.func8, Tryd.ntmps8
  go_wp2_with (first
    | (go_at_call 23; refine (CP.out _).mono ?_; rintro e w1 ⟨rfl, rfl⟩)
    | (go_at_call 19; refine (CA.out _).mono ?_; rintro e w1 ⟨rfl, hb1⟩; have HB1 := Lib.hid hb1; clear hb1)
    | (go_at_call 12; with_reducible refine (CB.out _ (HE.out.on HB1.out)).mono ?_; rintro e w2 ⟨rfl, hb2⟩; have HB2 := Lib.hid (below_then HB1.out hb2); clear hb2)
    | (go_at_call 12; with_reducible refine (CC.out _ (HE.out.on HB2.out)).mono ?_; rintro e w3 ⟨rfl, hb3⟩; have HB3 := Lib.hid (below_then HB2.out hb3); clear hb3))
  go_ret
  exact ⟨by simp, HB3.out⟩

theorem law (s : ByteArray) (was : Int) (w : World) (hs : s.size ≤ maxLen) (hE : Env w) :
    Calls Tryd.prog 8 #[.string s, .int .i64 was] w fun e w' => e = .returned (.bool true) ∧ Below w.heap.size w w' := by
  unfold maxLen at hs
  by_cases hb : s.size ≤ 65536
  · by_cases ha : s.data.toList.all isSimple = true
    · exact law_in s was w hb ha hE
    · have g1 : ¬ ((s.size : Int) > 2147483647) := by omega
      have g2 : ¬ ((s.size : Int) > 65536) := by omega
      have cP := fun wx => simple_any s (by omega) wx
      rw [Bool.eq_false_iff.2 ha] at cP
      have CP := Lib.hid cP
      clear cP ha hE
      go_enter Tryd.func8, Tryd.ntmps8
      go_wp2_with (first
        | (go_at_call 23; refine (CP.out _).mono ?_; rintro e w1 ⟨rfl, rfl⟩))
      go_ret
      exact ⟨rfl, Below.refl _ _⟩
  · clear hE
    by_cases h2 : s.size ≤ 2147483647
    · have g1 : ¬ ((s.size : Int) > 2147483647) := by omega
      have g2 : (s.size : Int) > 65536 := by omega
      go_enter Tryd.func8, Tryd.ntmps8
      go_wp2_with fail
      go_ret
      exact ⟨rfl, Below.refl _ _⟩
    · have g1 : (s.size : Int) > 2147483647 := by omega
      go_enter Tryd.func8, Tryd.ntmps8
      go_wp2_with fail
      go_ret
      exact ⟨rfl, Below.refl _ _⟩

open Go.ChangeShapes Go.WideShapes Go.ChangeAt
open Go.ChangeMaps (open_string shut_string)

/-- The world in which the listed variables lie as the list has it. -/
theorem door_met (os : Os) (args : Array Value) : laidMetH Tryd.prog Rows.fnLvParseJSONRow.laid ((World.laidAll Tryd.prog os Rows.fnLvParseJSONRow.laid).forCall (fun _ _ => 0) ⟨#[], args, []⟩).memory := by
  rw [MakeChecks.laidMetH_plain _ _ _ (by kernel_rfl)]; exact laidMet_laidAll _ (by kernel_rfl) (by kernel_rfl)

set_option maxRecDepth 100000 in
theorem lifted (os : Os) (started : os.Started) (H : Type) (enc : TypeId × Value → H) :
    ReturnsInHanded {} Tryd.checked os 8 .any (fun w args => (Rows.fnLvParseJSONSpec.pre enc Tryd.prog Tryd.f8 [] false w args ∧ laidMetH Tryd.prog Rows.fnLvParseJSONRow.laid w) ∧ sizedMet enc Tryd.prog Tryd.f8 (OpenSpec.ofChange Rows.fnLvParseJSONSpec) false w args)
      (Rows.fnLvParseJSONSpec.post enc Tryd.prog Tryd.f8 false true false false) := by
  refine returnsInHanded_of_change_and (C := Tryd.checked) (X := fun w _ => laidMetH Tryd.prog Rows.fnLvParseJSONRow.laid w) (fun _ _ _ hh h => h.of_heap hh) own started (by kernel_rfl) Tryd.func8
    (ChangeSpec.witness_shaped (enc := enc) (C := Tryd.checked) (os := os) (X := fun w _ => laidMetH Tryd.prog Rows.fnLvParseJSONRow.laid w) false (World.laidAll Tryd.prog os Rows.fnLvParseJSONRow.laid) #[.string ⟨#[]⟩, .int .i64 0] 8 (World.laidAll_os _ _ _)
      (World.shaped_of_ZipB (by kernel_rfl) (by kernel_rfl)) (by kernel_rfl) (by kernel_rfl) (by kernel_rfl) (door_met os _)) ?_
  intro W base args ds gs before hval0 hW _ _ hL _
  have hval : ∀ (j : Nat) t v, Tryd.f8.params[j]? = some t → args[j]? = some v → Value.okWide Tryd.prog W .any base t v := hval0
  have hW' := hW
  obtain ⟨p, q, hA0, hV, rfl, _, _⟩ := hW
  have hA : DataW.TrodAll enc Tryd.prog W 0 (fun _ => true) true Tryd.f8.params.toList args.toList ds p := hA0
  rw [Tryd.params8] at hA hval
  obtain ⟨v0, vs0, d0, ds0, p0, q0, hargs, rfl, rfl, h0, r0⟩ := trodAll_cons hA
  obtain ⟨v1, vs1, d1, ds1, p1, q1, rfl, rfl, rfl, h1, r1⟩ := trodAll_cons r0
  obtain ⟨rfl, rfl, rfl⟩ := trodAll_nil r1
  obtain rfl : args = #[v0, v1] := by cases args; simp_all
  obtain ⟨rfl, rfl⟩ := trodVars_none hV
  have lt0 : ∀ x ∈ p0, x.block < W.heap.size := by obtain ⟨m, hm⟩ := h0; exact DataW.trod_lt m _ _ _ hm
  have lt1 : ∀ x ∈ p1, x.block < W.heap.size := by obtain ⟨m, hm⟩ := h1; exact DataW.trod_lt m _ _ _ hm
  obtain ⟨s0, rfl, rfl, rfl, ws0⟩ := open_string Tryd.underlying9 (hval 0 9 v0 rfl rfl) h0
  obtain ⟨x1, rfl, rfl, rfl, wx1⟩ := open_int Tryd.underlying3 (hval 1 3 v1 rfl rfl) h1
  rw [MakeChecks.laidMetH_plain _ _ _ (by kernel_rfl)] at hL
  clear hA0 hval0
  refine (law s0 x1 W ws0 (env_of hL).1).mono fun e W' ⟨he, hb⟩ => ?_
  subst he
  exact ⟨_, rfl, _, _, _, [], _, [], hW', trodAll_mk1 (shut_bool Tryd.underlying4 _), (trodAll_cons_mk (Below.trod laidOut (by kernel_rfl) (of_decide_eq_true (by kernel_rfl)) h0 hb lt0) (trodAll_cons_mk (Below.trod laidOut (by kernel_rfl) (of_decide_eq_true (by kernel_rfl)) h1 hb lt1) trodAll_mk0)), rfl, hb.frame _, fun h => by cases h⟩

theorem holds : Rows.FnLvParseJSONSaid :=
  OpenClaim.holds_of_wide 8 Tryd.f8 rfl rfl rfl rfl rfl rfl rfl ⟨rfl, rfl, rfl, rfl, rfl⟩ rfl rfl rfl rfl rfl (by kernel_rfl) Tryd.func8 (by kernel_rfl)
    (of_decide_eq_true (by kernel_rfl)) (by unfold Func.isWrapper; first | (rw [if_pos (by decide +kernel)]; kernel_rfl) | (rw [if_neg (by decide +kernel)]; exact ⟨rfl, rfl⟩))
    (fun os started H enc _ => lifted os started H enc)

theorem card_holds : Rows.FnLvParseJSONCardSaid :=
  Claim7.holds_tied_plain_at .later [] [.data, .data, .data, .data, .sentinel, .sentinel, .pinned, .pinned, .pinned, .pinned, .pinned, .pinned, .pinned] true (true, "d9f177f533fee60afbeaaebeb7f41ca3d323d948cffb8416b2be422bf214685b") true holds (fun _ h => by cases h) (by kernel_rfl) (fun _ h => by cases h) fnLvParseJSON_row_tie rfl ⟨rfl, rfl⟩ (by kernel_rfl) rfl
    (fun f fn hf hfn => by
      obtain rfl : f = 8 := Option.some.inj ((show Tryd.prog.funcNamed "pub-jottings/laws.FnLvParseJSON" = some 8 by kernel_rfl).symm.trans hf) |>.symm
      obtain rfl : fn = Tryd.f8 := (Option.some.inj (Tryd.func8.symm.trans hfn)).symm
      exact ⟨by kernel_rfl, fun j t ht => by
        rw [Tryd.params8] at ht
        have hm : t ∈ [9, 3] := by simpa using Array.mem_of_getElem? ht
        have hall : ([9, 3].all fun u => !Tryd.prog.wantsStandIn u) = true := by kernel_rfl
        exact (show Tryd.prog.wantsStandIn t = false by simpa using List.all_eq_true.1 hall t hm)⟩)
    (by kernel_rfl)
#print axioms card_holds


end Go.Proofs.YtconeignnananaaDoor.LvJSON

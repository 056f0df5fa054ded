/- What stands for a string in JSON, read again, is the string, coerced to UTF-8, and two strings of UTF-8 are escaped each by itself: FnJsEscapedBack answers true for all two strings. The variables safeSet, utf8.first and utf8.acceptRanges read as the program's text lays them. -/
import Derived.Test.YtngddccmkhghiaaDoorEscD
import Derived.Test.YtngddccmkhghiaaDoorBackD
namespace Go.Proofs.YtngddccmkhghiaaDoor.Back
set_option linter.unusedVariables false
set_option linter.unusedSimpArgs false
open Go Go.Lib Go.RowKit Go.Proofs.YtngddccmkhghiaaDoor.Esc

theorem bcell {W w1 : World} (hb : Below W.heap.size W w1) : (∀ b o, b < W.heap.size → w1.cell? ⟨b, o, none⟩ = W.cell? ⟨b, o, none⟩) ∧ (∀ b o, b < W.heap.size → w1.frozen? ⟨b, o, none⟩ = W.frozen? ⟨b, o, none⟩) :=
  ⟨fun b o h => hb.cell (p := ⟨b, o, none⟩) h, fun b o h => hb.frozen (p := ⟨b, o, none⟩) h⟩
theorem safe_below {w w' : World} (h : SafeTab w) (hb : Below w.heap.size w w') : SafeTab w' := fun b hb' =>
  (hb.cell (p := ⟨3, b, none⟩) (World.block_lt_of_cell? w _ (h b hb'))).trans (h b hb')

theorem arr_size (l : List UInt8) : (⟨l.toArray⟩ : ByteArray).size = l.length := by
  rw [size_eq]

set_option maxRecDepth 100000 in
set_option maxHeartbeats 2000000 in
theorem law_in (s t : ByteArray) (w : World) (hst : s.size + t.size ≤ 65536) (hT : Lib.Utf8Tabs 0 1 w) (hS : SafeTab w) :
    Calls Tryd.prog 5 #[.string s, .string t] w fun e w' => e = .returned (.bool true) ∧ Below w.heap.size w w' := by
  have g1 : ¬ ((s.size : Int) > 2147483647) := by omega
  have g2 : ¬ ((t.size : Int) > 2147483647) := by omega
  have g3 : ¬ ((s.size : Int) + (t.size : Int) > 65536) := by omega
  have e1 := arr_size (esc s.data.toList)
  have e2 := esc_len s.data.toList
  rw [← size_eq] at e2
  have e3 : (⟨(esc s.data.toList).toArray⟩ : ByteArray).size ≤ 500000 := by omega
  have f1 := arr_size (esc t.data.toList)
  have f2 := esc_len t.data.toList
  rw [← size_eq] at f2
  have f3 : (⟨(esc t.data.toList).toArray⟩ : ByteArray).size ≤ 500000 := by omega
  clear e1 e2 f1 f2
  obtain ⟨E, hE⟩ : ∃ E : ByteArray, E = ⟨(esc s.data.toList).toArray⟩ := ⟨_, rfl⟩
  obtain ⟨F, hF⟩ : ∃ F : ByteArray, F = ⟨(esc t.data.toList).toArray⟩ := ⟨_, rfl⟩
  obtain ⟨C, hC⟩ : ∃ C : ByteArray, C = ⟨(co s.data.toList).toArray⟩ := ⟨_, rfl⟩
  rw [← hE] at e3
  rw [← hF] at f3
  have hD : (⟨#[34]⟩ ++ E ++ ⟨#[34, 10]⟩ : ByteArray).data.toList = 34 :: (esc s.data.toList ++ [34, 10]) := by
    rw [ByteArray.toList_data_append, ByteArray.toList_data_append, hE]; simp
  have hDs : (⟨#[34]⟩ ++ E ++ ⟨#[34, 10]⟩ : ByteArray).size ≤ 1000000000 := by
    rw [ByteArray.size_append, ByteArray.size_append, show (⟨#[34]⟩ : ByteArray).size = 1 from rfl, show (⟨#[34, 10]⟩ : ByteArray).size = 2 from rfl]; omega
  have HD := Lib.hid hD
  have HDs := Lib.hid hDs
  clear hD hDs
  have HEF := Lib.hid (fun hv : validD s.data.toList = true => (show (⟨(esc (s ++ t).data.toList).toArray⟩ : ByteArray) = E ++ F by
    rw [hE, hF, ByteArray.toList_data_append, esc_append _ _ _ (Nat.le_refl _) hv]
    apply ByteArray.ext
    simp))
  have HE := Lib.hid hE
  have HF := Lib.hid hF
  have HC := Lib.hid hC
  have HT := Lib.hid hT
  have HS := Lib.hid hS
  clear hE hF hC hT hS
  go_enter Tryd.func5, Tryd.ntmps5
  go_wp2_with (first
    | (go_at_call 8; refine (escaped_any s _ (by omega) HT.out HS.out).mono ?_; rintro e w1 ⟨rfl, hb1⟩; rw [← HE.out]; have HB1 := Lib.hid hb1; clear hb1)
    | (go_at_call 10; refine (read_str _ s.data.toList _ (tabs_below HT.out HB1.out) HD.out HDs.out).mono ?_; rintro e w2 ⟨rfl, hb2⟩; rw [← HC.out]; have HB2 := Lib.hid hb2; clear hb2))
  go_region_held3 (fun w' => w'.cell? ⟨w2.heap.size, 0, none⟩ = some (.int .i64 4) ∧ w'.cell? ⟨w2.heap.size, 1, none⟩ = some (.string C)) (go_keep) (first
    | (go_at_call 11; refine (co_str s _ (by omega)).mono ?_; rintro e w3 ⟨rfl, hb3⟩; rw [← HC.out]; have HB3 := Lib.hid hb3; obtain ⟨hc3, hf3⟩ := bcell hb3; clear hb3))
  have hB3 : Below w.heap.size w w3 := ((HB1.out.trans (HB2.out.mono HB1.out.size)).alloc (by have := HB1.out.size; have := HB2.out.size; omega) _).drew.trans (HB3.out.mono (by have := HB1.out.size; have := HB2.out.size; simp; omega))
  have HB := Lib.hid hB3
  clear hB3 hc3 hf3
  cases hv : validD s.data.toList with
  | false =>
    have Hv := Lib.hid hv
    clear hv
    go_wp2_with (first
      | (go_at_call 12; refine (Tryd.utf8_ValidString s _ (by omega) (tabs_below HT.out HB.out)).mono ?_; rintro e w4 ⟨rfl, hb4⟩; rw [Hv.out]; have HB4 := Lib.hid hb4; clear hb4))
    go_ret
    exact ⟨rfl, HB.out.trans (HB4.out.mono HB.out.size)⟩
  | true =>
    have Hv := Lib.hid hv
    clear hv
    have hsz : (s ++ t).size ≤ 1000000 := by rw [ByteArray.size_append]; omega
    have Hsz := Lib.hid hsz
    clear hsz
    go_wp2_with (first
      | (go_at_call 12; refine (Tryd.utf8_ValidString s _ (by omega) (tabs_below HT.out HB.out)).mono ?_; rintro e w4 ⟨rfl, hb4⟩; rw [Hv.out]; have HB4 := Lib.hid (HB.out.trans (hb4.mono HB.out.size)); clear hb4)
      | (go_at_call 8; have _k1 := HB4; refine (escaped_any (s ++ t) _ Hsz.out (tabs_below HT.out HB4.out) (safe_below HS.out HB4.out)).mono ?_; rintro e w5 ⟨rfl, hb5⟩; rw [HEF.out Hv.out]; have HB5 := Lib.hid (HB4.out.trans (hb5.mono HB4.out.size)); clear hb5 _k1 HB4)
      | (go_at_call 8; refine (escaped_any s _ (by omega) (tabs_below HT.out HB5.out) (safe_below HS.out HB5.out)).mono ?_; rintro e w6 ⟨rfl, hb6⟩; rw [← HE.out]; have HB6 := Lib.hid (HB5.out.trans (hb6.mono HB5.out.size)); clear hb6 HB5)
      | (go_at_call 8; refine (escaped_any t _ (by omega) (tabs_below HT.out HB6.out) (safe_below HS.out HB6.out)).mono ?_; rintro e w7 ⟨rfl, hb7⟩; rw [← HF.out]; have HB7 := Lib.hid (HB6.out.trans (hb7.mono HB6.out.size)); clear hb7 HB6))
    go_ret
    exact ⟨by simp, HB7.out⟩

theorem law (s t : ByteArray) (w : World) (hs : s.size ≤ maxLen) (ht : t.size ≤ maxLen) (hT : Lib.Utf8Tabs 0 1 w) (hS : SafeTab w) :
    Calls Tryd.prog 5 #[.string s, .string t] w fun e w' => e = .returned (.bool true) ∧ Below w.heap.size w w' := by
  unfold maxLen at hs ht
  by_cases h0 : s.size + t.size ≤ 65536
  · exact law_in s t w h0 hT hS
  · by_cases h1 : s.size ≤ 2147483647
    · have g1 : ¬ ((s.size : Int) > 2147483647) := by omega
      by_cases h2 : t.size ≤ 2147483647
      · have g2 : ¬ ((t.size : Int) > 2147483647) := by omega
        have g3 : (s.size : Int) + (t.size : Int) > 65536 := by omega
        go_enter Tryd.func5, Tryd.ntmps5
        go_wp2_with fail
        go_ret
        exact ⟨rfl, Below.refl _ _⟩
      · have g2 : (t.size : Int) > 2147483647 := by omega
        go_enter Tryd.func5, Tryd.ntmps5
        go_wp2_with fail
        go_ret
        exact ⟨rfl, Below.refl _ _⟩
    · have g1 : (s.size : Int) > 2147483647 := by omega
      go_enter Tryd.func5, Tryd.ntmps5
      go_wp2_with fail
      go_ret
      exact ⟨rfl, Below.refl _ _⟩

open Go.ChangeShapes Go.WideShapes Go.ChangeAt
open Go.ChangeMaps (open_string shut_string)

/-- The world in which the listed variables lie as the list has it. -/
theorem door_met (os : Os) (args : Array Value) : laidMetH Tryd.prog Rows.fnJsEscapedBackRow.laid ((World.laidAll Tryd.prog os Rows.fnJsEscapedBackRow.laid).forCall (fun _ _ => 0) ⟨#[], args, []⟩).memory := by
  rw [MakeChecks.laidMetH_plain _ _ _ (by kernel_rfl)]; exact laidMet_laidAll _ (by kernel_rfl) (by kernel_rfl)

set_option maxRecDepth 100000 in
theorem lifted (os : Os) (started : os.Started) (H : Type) (enc : TypeId × Value → H) :
    ReturnsInHanded {} Tryd.checked os 5 .any (fun w args => (Rows.fnJsEscapedBackSpec.pre enc Tryd.prog Tryd.f5 [] false w args ∧ laidMetH Tryd.prog Rows.fnJsEscapedBackRow.laid w) ∧ sizedMet enc Tryd.prog Tryd.f5 (OpenSpec.ofChange Rows.fnJsEscapedBackSpec) false w args)
      (Rows.fnJsEscapedBackSpec.post enc Tryd.prog Tryd.f5 false true false false) := by
  refine returnsInHanded_of_change_and (C := Tryd.checked) (X := fun w _ => laidMetH Tryd.prog Rows.fnJsEscapedBackRow.laid w) (fun _ _ _ hh h => h.of_heap hh) own started (by kernel_rfl) Tryd.func5
    (ChangeSpec.witness_shaped (enc := enc) (C := Tryd.checked) (os := os) (X := fun w _ => laidMetH Tryd.prog Rows.fnJsEscapedBackRow.laid w) false (World.laidAll Tryd.prog os Rows.fnJsEscapedBackRow.laid) #[.string ⟨#[]⟩, .string ⟨#[]⟩] 8 (World.laidAll_os _ _ _)
      (World.shaped_of_ZipB (by kernel_rfl) (by kernel_rfl)) (by kernel_rfl) (by kernel_rfl) (by kernel_rfl) (door_met os _)) ?_
  intro W base args ds gs before hval0 hW _ _ hL _
  have hval : ∀ (j : Nat) t v, Tryd.f5.params[j]? = some t → args[j]? = some v → Value.okWide Tryd.prog W .any base t v := hval0
  have hW' := hW
  obtain ⟨p, q, hA0, hV, rfl, _, _⟩ := hW
  have hA : DataW.TrodAll enc Tryd.prog W 0 (fun _ => true) true Tryd.f5.params.toList args.toList ds p := hA0
  rw [Tryd.params5] at hA hval
  obtain ⟨v0, vs0, d0, ds0, p0, q0, hargs, rfl, rfl, h0, r0⟩ := trodAll_cons hA
  obtain ⟨v1, vs1, d1, ds1, p1, q1, rfl, rfl, rfl, h1, r1⟩ := trodAll_cons r0
  obtain ⟨rfl, rfl, rfl⟩ := trodAll_nil r1
  obtain rfl : args = #[v0, v1] := by cases args; simp_all
  obtain ⟨rfl, rfl⟩ := trodVars_none hV
  have lt0 : ∀ x ∈ p0, x.block < W.heap.size := by obtain ⟨m, hm⟩ := h0; exact DataW.trod_lt m _ _ _ hm
  have lt1 : ∀ x ∈ p1, x.block < W.heap.size := by obtain ⟨m, hm⟩ := h1; exact DataW.trod_lt m _ _ _ hm
  obtain ⟨s0, rfl, rfl, rfl, ws0⟩ := open_string Tryd.underlying9 (hval 0 9 v0 rfl rfl) h0
  obtain ⟨s1, rfl, rfl, rfl, ws1⟩ := open_string Tryd.underlying9 (hval 1 9 v1 rfl rfl) h1
  rw [MakeChecks.laidMetH_plain _ _ _ (by kernel_rfl)] at hL
  clear hA0 hval0
  refine (law s0 s1 W ws0 ws1 (tabs_of_laid hL) (safe_of_laid hL)).mono fun e W' ⟨he, hb⟩ => ?_
  subst he
  exact ⟨_, rfl, _, _, _, [], _, [], hW', trodAll_mk1 (shut_bool Tryd.underlying4 _), (trodAll_cons_mk (Below.trod laidOut (by kernel_rfl) (of_decide_eq_true (by kernel_rfl)) h0 hb lt0) (trodAll_cons_mk (Below.trod laidOut (by kernel_rfl) (of_decide_eq_true (by kernel_rfl)) h1 hb lt1) trodAll_mk0)), rfl, hb.frame _, fun h => by cases h⟩

theorem holds : Rows.FnJsEscapedBackSaid :=
  OpenClaim.holds_of_wide 5 Tryd.f5 rfl rfl rfl rfl rfl rfl rfl ⟨rfl, rfl, rfl, rfl, rfl⟩ rfl rfl rfl rfl rfl (by kernel_rfl) Tryd.func5 (by kernel_rfl)
    (of_decide_eq_true (by kernel_rfl)) (by unfold Func.isWrapper; first | (rw [if_pos (by decide +kernel)]; kernel_rfl) | (rw [if_neg (by decide +kernel)]; exact ⟨rfl, rfl⟩))
    (fun os started H enc _ => lifted os started H enc)

theorem card_holds : Rows.FnJsEscapedBackCardSaid :=
  Claim7.holds_tied_plain_at .later [] [.data, .data, .pinned] true (true, "d1418c3f38be9fe6f122771c5d978cce8b04c3feb8b8c8c046b0ce490cc85ab3") false holds (fun _ h => by cases h) (by kernel_rfl) (fun _ h => by cases h) fnJsEscapedBack_row_tie rfl ⟨rfl, rfl⟩ (by kernel_rfl) rfl
    (fun f fn hf hfn => by
      obtain rfl : f = 5 := Option.some.inj ((show Tryd.prog.funcNamed "pub-jottings/laws.FnJsEscapedBack" = some 5 by kernel_rfl).symm.trans hf) |>.symm
      obtain rfl : fn = Tryd.f5 := (Option.some.inj (Tryd.func5.symm.trans hfn)).symm
      exact ⟨by kernel_rfl, fun j t ht => by
        rw [Tryd.params5] at ht
        have hm : t ∈ [9, 9] := by simpa using Array.mem_of_getElem? ht
        have hall : ([9, 9].all fun u => !Tryd.prog.wantsStandIn u) = true := by kernel_rfl
        exact (show Tryd.prog.wantsStandIn t = false by simpa using List.all_eq_true.1 hall t hm)⟩)
    (by kernel_rfl)
#print axioms card_holds


end Go.Proofs.YtngddccmkhghiaaDoor.Back

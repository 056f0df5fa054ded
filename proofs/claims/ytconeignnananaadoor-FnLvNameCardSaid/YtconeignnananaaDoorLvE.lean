/- The name of a level by its methods is the one that is due: FnLvName answers true for every level and every text. The variables that strconv reads lie as the program's text lays them. -/
import Derived.Test.YtconeignnananaaDoorLvD
namespace Go.Proofs.YtconeignnananaaDoor.LvName
set_option linter.unusedVariables false
set_option linter.unusedSimpArgs false
open Go Go.Lib Go.RowKit Go.Proofs.YtconeignnananaaDoor.Lv

theorem pow_name {W : World} (h : laidMet Tryd.prog Rows.fnLvNameRow.laid W) : Pow W := pow_of h (.tail _ (.tail _ (.head _)))
theorem print_name {W : World} (h : laidMet Tryd.prog Rows.fnLvNameRow.laid W) : PrintTabsAt 9 10 11 12 goPrintTabs W := print_of h (.tail _ (.tail _ (.tail _ (.tail _ (.tail _ (.tail _ (.tail _ (.head _)))))))) (.tail _ (.tail _ (.tail _ (.tail _ (.tail _ (.head _)))))) (.tail _ (.tail _ (.tail _ (.tail _ (.tail _ (.tail _ (.tail _ (.tail _ (.head _))))))))) (.tail _ (.tail _ (.tail _ (.tail _ (.tail _ (.tail _ (.head _)))))))

set_option maxRecDepth 100000 in
set_option maxHeartbeats 2000000 in
theorem law_in (n : Int) (s : ByteArray) (w : World) (h0 : -9223372036854775808 ≤ n) (h1 : n ≤ 9223372036854775807) (hs : s.size ≤ 65536) (hp : Pow w) (hT : PrintTabsAt 9 10 11 12 goPrintTabs w) :
    Calls Tryd.prog 4 #[.int .i64 n, .string s] w fun e w' => e = .returned (.bool true) ∧ Below w.heap.size w w' := by
  have g1 : ¬ ((s.size : Int) > 2147483647) := by omega
  have g2 : ¬ ((s.size : Int) > 65536) := by omega
  have hsz := lvName_size n h0 h1
  obtain ⟨N, hN⟩ : ∃ N, N = lvName n := ⟨_, rfl⟩
  rw [← hN] at hsz
  have HN := Lib.hid hN
  have HP := Lib.hid hp
  have HT := Lib.hid hT
  clear hN hp hT
  go_enter Tryd.func4, Tryd.ntmps4
  go_wp2_with (first
    | (go_at_call 13; refine (specName_any n h0 h1 _ HP.out).mono ?_; rintro e w1 ⟨rfl, hb1⟩; rw [← HN.out]; have HB1 := Lib.hid hb1; clear hb1)
    | (go_at_call 14; refine (levelString_any n h0 h1 _ (HP.out.on HB1.out)).mono ?_; rintro e w2 ⟨rfl, hb2⟩; rw [← HN.out]; have HB2 := Lib.hid (below_then HB1.out hb2); clear hb2)
    | (go_at_call 15; refine (levelText_any n h0 h1 _ (HP.out.on HB2.out)).mono ?_; rintro e w3 ⟨rfl, hb3⟩; rw [← HN.out]; have HB3 := Lib.hid (below_then HB2.out hb3); clear hb3)
    | (go_at_call 16; refine (levelAppend_any n h0 h1 s (by omega) _ (HP.out.on HB3.out)).mono ?_; rintro e w4 ⟨rfl, hb4⟩; rw [← HN.out]; have HB4 := Lib.hid (below_then HB3.out hb4); clear hb4)
    | (go_at_call 17; refine (levelJSON_any n h0 h1 goPrintTabs _ (HP.out.on HB4.out) (Go.Proofs.printTabs_below HT.out HB4.out)).mono ?_; rintro e w5 ⟨rfl, hb5⟩; rw [← HN.out]; unfold quoB; have HB5 := Lib.hid (below_then HB4.out hb5); clear hb5))
  go_ret
  exact ⟨by simp, HB5.out⟩

theorem law (n : Int) (s : ByteArray) (w : World) (h0 : -9223372036854775808 ≤ n) (h1 : n ≤ 9223372036854775807) (hs : s.size ≤ maxLen) (hp : Pow w) (hT : PrintTabsAt 9 10 11 12 goPrintTabs w) :
    Calls Tryd.prog 4 #[.int .i64 n, .string s] w fun e w' => e = .returned (.bool true) ∧ Below w.heap.size w w' := by
  unfold maxLen at hs
  by_cases hb : s.size ≤ 65536
  · exact law_in n s w h0 h1 hb hp hT
  · clear hp hT
    by_cases h2 : s.size ≤ 2147483647
    · have g1 : ¬ ((s.size : Int) > 2147483647) := by omega
      have g2 : (s.size : Int) > 65536 := by omega
      go_enter Tryd.func4, Tryd.ntmps4
      go_wp2_with fail
      go_ret
      exact ⟨rfl, Below.refl _ _⟩
    · have g1 : (s.size : Int) > 2147483647 := by omega
      go_enter Tryd.func4, Tryd.ntmps4
      go_wp2_with fail
      go_ret
      exact ⟨rfl, Below.refl _ _⟩

open Go.ChangeShapes Go.WideShapes Go.ChangeAt
open Go.ChangeMaps (open_string shut_string)

/-- The world in which the listed variables lie as the list has it. -/
theorem door_met (os : Os) (args : Array Value) : laidMetH Tryd.prog Rows.fnLvNameRow.laid ((World.laidAll Tryd.prog os Rows.fnLvNameRow.laid).forCall (fun _ _ => 0) ⟨#[], args, []⟩).memory := by
  rw [MakeChecks.laidMetH_plain _ _ _ (by kernel_rfl)]; exact laidMet_laidAll _ (by kernel_rfl) (by kernel_rfl)

set_option maxRecDepth 100000 in
theorem lifted (os : Os) (started : os.Started) (H : Type) (enc : TypeId × Value → H) :
    ReturnsInHanded {} Tryd.checked os 4 .any (fun w args => (Rows.fnLvNameSpec.pre enc Tryd.prog Tryd.f4 [] false w args ∧ laidMetH Tryd.prog Rows.fnLvNameRow.laid w) ∧ sizedMet enc Tryd.prog Tryd.f4 (OpenSpec.ofChange Rows.fnLvNameSpec) false w args)
      (Rows.fnLvNameSpec.post enc Tryd.prog Tryd.f4 false true false false) := by
  refine returnsInHanded_of_change_and (C := Tryd.checked) (X := fun w _ => laidMetH Tryd.prog Rows.fnLvNameRow.laid w) (fun _ _ _ hh h => h.of_heap hh) own started (by kernel_rfl) Tryd.func4
    (ChangeSpec.witness_shaped (enc := enc) (C := Tryd.checked) (os := os) (X := fun w _ => laidMetH Tryd.prog Rows.fnLvNameRow.laid w) false (World.laidAll Tryd.prog os Rows.fnLvNameRow.laid) #[.int .i64 0, .string ⟨#[]⟩] 8 (World.laidAll_os _ _ _)
      (World.shaped_of_ZipB (by kernel_rfl) (by kernel_rfl)) (by kernel_rfl) (by kernel_rfl) (by kernel_rfl) (door_met os _)) ?_
  intro W base args ds gs before hval0 hW _ _ hL _
  have hval : ∀ (j : Nat) t v, Tryd.f4.params[j]? = some t → args[j]? = some v → Value.okWide Tryd.prog W .any base t v := hval0
  have hW' := hW
  obtain ⟨p, q, hA0, hV, rfl, _, _⟩ := hW
  have hA : DataW.TrodAll enc Tryd.prog W 0 (fun _ => true) true Tryd.f4.params.toList args.toList ds p := hA0
  rw [Tryd.params4] at hA hval
  obtain ⟨v0, vs0, d0, ds0, p0, q0, hargs, rfl, rfl, h0, r0⟩ := trodAll_cons hA
  obtain ⟨v1, vs1, d1, ds1, p1, q1, rfl, rfl, rfl, h1, r1⟩ := trodAll_cons r0
  obtain ⟨rfl, rfl, rfl⟩ := trodAll_nil r1
  obtain rfl : args = #[v0, v1] := by cases args; simp_all
  obtain ⟨rfl, rfl⟩ := trodVars_none hV
  have lt0 : ∀ x ∈ p0, x.block < W.heap.size := by obtain ⟨m, hm⟩ := h0; exact DataW.trod_lt m _ _ _ hm
  have lt1 : ∀ x ∈ p1, x.block < W.heap.size := by obtain ⟨m, hm⟩ := h1; exact DataW.trod_lt m _ _ _ hm
  obtain ⟨x0, rfl, rfl, rfl, wx0⟩ := open_int Tryd.underlying3 (hval 0 3 v0 rfl rfl) h0
  obtain ⟨s1, rfl, rfl, rfl, ws1⟩ := open_string Tryd.underlying9 (hval 1 9 v1 rfl rfl) h1
  rw [MakeChecks.laidMetH_plain _ _ _ (by kernel_rfl)] at hL
  clear hA0 hval0
  refine (law x0 s1 W (i64_ge wx0) (i64_le wx0) ws1 (pow_name hL) (print_name hL)).mono fun e W' ⟨he, hb⟩ => ?_
  subst he
  exact ⟨_, rfl, _, _, _, [], _, [], hW', trodAll_mk1 (shut_bool Tryd.underlying4 _), (trodAll_cons_mk (Below.trod laidOut (by kernel_rfl) (of_decide_eq_true (by kernel_rfl)) h0 hb lt0) (trodAll_cons_mk (Below.trod laidOut (by kernel_rfl) (of_decide_eq_true (by kernel_rfl)) h1 hb lt1) trodAll_mk0)), rfl, hb.frame _, fun h => by cases h⟩

theorem holds : Rows.FnLvNameSaid :=
  OpenClaim.holds_of_wide 4 Tryd.f4 rfl rfl rfl rfl rfl rfl rfl ⟨rfl, rfl, rfl, rfl, rfl⟩ rfl rfl rfl rfl rfl (by kernel_rfl) Tryd.func4 (by kernel_rfl)
    (of_decide_eq_true (by kernel_rfl)) (by unfold Func.isWrapper; first | (rw [if_pos (by decide +kernel)]; kernel_rfl) | (rw [if_neg (by decide +kernel)]; exact ⟨rfl, rfl⟩))
    (fun os started H enc _ => lifted os started H enc)

theorem card_holds : Rows.FnLvNameCardSaid :=
  Claim7.holds_tied_plain_at .later [] [.data, .data, .data, .data, .pinned, .pinned, .pinned, .pinned, .pinned, .pinned] true (true, "d9f177f533fee60afbeaaebeb7f41ca3d323d948cffb8416b2be422bf214685b") true holds (fun _ h => by cases h) (by kernel_rfl) (fun _ h => by cases h) fnLvName_row_tie rfl ⟨rfl, rfl⟩ (by kernel_rfl) rfl
    (fun f fn hf hfn => by
      obtain rfl : f = 4 := Option.some.inj ((show Tryd.prog.funcNamed "pub-jottings/laws.FnLvName" = some 4 by kernel_rfl).symm.trans hf) |>.symm
      obtain rfl : fn = Tryd.f4 := (Option.some.inj (Tryd.func4.symm.trans hfn)).symm
      exact ⟨by kernel_rfl, fun j t ht => by
        rw [Tryd.params4] at ht
        have hm : t ∈ [3, 9] := by simpa using Array.mem_of_getElem? ht
        have hall : ([3, 9].all fun u => !Tryd.prog.wantsStandIn u) = true := by kernel_rfl
        exact (show Tryd.prog.wantsStandIn t = false by simpa using List.all_eq_true.1 hall t hm)⟩)
    (by kernel_rfl)
#print axioms card_holds


end Go.Proofs.YtconeignnananaaDoor.LvName

/- The name of a kind, asked of package slog and of the reference, is the same text for every int. No condition beyond the row's own: the variable kindStrings reads as the program's text lays it. -/
import Derived.Test.YtngddccmkhghiaaDoorTie
import Derived.Test.YtngddccmkhghiaaDoorCards
import Derived.WalkKit
import Derived.ProofKit
import Derived.OpenShut
import Derived.LaidMore
import Derived.Lay
import Derived.Lib.LaidU8
import Derived.SevenTiedAt
import Derived.Stop.Joined
namespace Go.Proofs.YtngddccmkhghiaaDoor.Kind
open Go Go.ChangeShapes Go.WideShapes Go.ChangeAt Go.RowKit

/-- The ten names, as bytes. -/
def names : List (List UInt8) := [[65, 110, 121], [66, 111, 111, 108], [68, 117, 114, 97, 116, 105, 111, 110], [70, 108, 111, 97, 116, 54, 52], [73, 110, 116, 54, 52], [83, 116, 114, 105, 110, 103], [84, 105, 109, 101], [85, 105, 110, 116, 54, 52], [71, 114, 111, 117, 112], [76, 111, 103, 86, 97, 108, 117, 101, 114]]
def nameAt (i : Nat) : Value := .string ⟨(names.getD i []).toArray⟩

theorem gK : Tryd.prog.globalNamed "pub-jottings/pub/slog.kindStrings" = some 2 := by kernel_rfl

theorem walk_in (i : Nat) (hi : i < 10) (w : World) (hc : w.cell? ⟨2, i, none⟩ = some (nameAt i)) :
    Calls Tryd.prog 3 #[.int .i64 i] w fun e w' => e = .returned (.bool true) ∧ w' = w := by
  match i, hi with
  | 0, _ | 1, _ | 2, _ | 3, _ | 4, _ | 5, _ | 6, _ | 7, _ | 8, _ | 9, _ =>
    all_goals
      simp only [nameAt, names] at hc
      go_enter Tryd.func3, Tryd.ntmps3
      go_wp2
      go_ret
      exact ⟨rfl, rfl⟩

theorem walk_out (k : Int) (hk : k < 0 ∨ 10 ≤ k) (w : World) :
    Calls Tryd.prog 3 #[.int .i64 k] w fun e w' => e = .returned (.bool true) ∧ w' = w := by
  have h0 : (k == 0) = false := by simp; omega
  have h1 : (k == 1) = false := by simp; omega
  have h2 : (k == 2) = false := by simp; omega
  have h3 : (k == 3) = false := by simp; omega
  have h4 : (k == 4) = false := by simp; omega
  have h5 : (k == 5) = false := by simp; omega
  have h6 : (k == 6) = false := by simp; omega
  have h7 : (k == 7) = false := by simp; omega
  have h8 : (k == 8) = false := by simp; omega
  have h9 : (k == 9) = false := by simp; omega
  rcases hk with hk | hk
  all_goals
    go_enter Tryd.func3, Tryd.ntmps3
    go_wp2
    go_ret
    exact ⟨rfl, rfl⟩

theorem of_laid {W : World} (h : laidMetH Tryd.prog Rows.fnVaKindNameRow.laid W) (i : Nat) (hi : i < 10) : W.cell? ⟨2, i, none⟩ = some (nameAt i) := by
  rw [MakeChecks.laidMetH_plain _ _ _ (by kernel_rfl)] at h
  obtain ⟨g, t, cs, fuel, p, hg, ht, hv, hd⟩ := Lib.laidMet.reads h (.head _)
  obtain rfl := Option.some.inj (gK.symm.trans hg)
  obtain rfl := Option.some.inj ((show (Tryd.prog.globals[2]?).map (·.type) = some 46 by kernel_rfl).symm.trans ht)
  have c9 : Tryd.prog.cellsOf 9 = 1 := by kernel_rfl
  obtain ⟨fuel', d, q, hds, hE⟩ := Lib.array_elem Tryd.underlying46 hd i hi
  rw [c9, Nat.mul_one] at hE
  obtain ⟨s, e1, e2, _⟩ := DataW.trod_string Tryd.underlying9 hE
  rw [World.var?_cell hg hv i]
  have hc : cs.toList[i]? = some (.string s) := by
    have h0 : ((cs.toList.drop i).take 1)[0]? = some (.string s) := by rw [e1]; rfl
    simpa using h0
  have hs : nameAt i = .string s := by
    obtain ⟨rfl, rfl⟩ := Prod.mk.inj e2
    match i, hi with
    | 0, _ | 1, _ | 2, _ | 3, _ | 4, _ | 5, _ | 6, _ | 7, _ | 8, _ | 9, _ =>
      all_goals
        simp only [List.getElem?_cons_zero, List.getElem?_cons_succ, Option.some.injEq, DataW.lit.injEq, Lit.string.injEq] at hds
        simp [nameAt, names, hds]
  rw [hs]
  simpa using hc

theorem walk (k : Int) (w : World) (hc : ∀ i, i < 10 → w.cell? ⟨2, i, none⟩ = some (nameAt i)) :
    Calls Tryd.prog 3 #[.int .i64 k] w fun e w' => e = .returned (.bool true) ∧ w' = w := by
  by_cases h : k < 0 ∨ 10 ≤ k
  · exact walk_out k h w
  · obtain ⟨i, rfl⟩ : ∃ i : Nat, k = i := ⟨k.toNat, by omega⟩
    exact walk_in i (by omega) w (hc i (by omega))

theorem own : ownKnob Tryd.prog.godebug = none := by kernel_rfl

/-- The door's own heap meets the condition. -/
theorem door_met (os : Os) (args : Array Value) : laidMetH Tryd.prog Rows.fnVaKindNameRow.laid ((World.laidAll Tryd.prog os Rows.fnVaKindNameRow.laid).forCall (fun _ _ => 0) ⟨#[], args, []⟩).memory := by
  rw [MakeChecks.laidMetH_plain _ _ _ (by kernel_rfl)]; exact laidMet_laidAll _ (by kernel_rfl) (by kernel_rfl)

set_option maxRecDepth 100000 in
theorem lifted (os : Os) (started : os.Started) (H : Type) (enc : TypeId × Value → H) :
    ReturnsInHanded {} Tryd.checked os 3 .any (fun w args => (Rows.fnVaKindNameSpec.pre enc Tryd.prog Tryd.f3 [] false w args ∧ laidMetH Tryd.prog Rows.fnVaKindNameRow.laid w) ∧ sizedMet enc Tryd.prog Tryd.f3 (OpenSpec.ofChange Rows.fnVaKindNameSpec) false w args)
      (Rows.fnVaKindNameSpec.post enc Tryd.prog Tryd.f3 false true false false) := by
  refine returnsInHanded_of_change_and (C := Tryd.checked) (X := fun w _ => laidMetH Tryd.prog Rows.fnVaKindNameRow.laid w) (fun _ _ _ hh h => h.of_heap hh) own started (by kernel_rfl) Tryd.func3
    (ChangeSpec.witness_shaped (enc := enc) (C := Tryd.checked) (os := os) (X := fun w _ => laidMetH Tryd.prog Rows.fnVaKindNameRow.laid w) false (World.laidAll Tryd.prog os Rows.fnVaKindNameRow.laid) #[.int .i64 0] 8 (World.laidAll_os _ _ _)
      (World.shaped_of_ZipB (by kernel_rfl) (by kernel_rfl)) (by kernel_rfl) (by kernel_rfl) (by kernel_rfl) (door_met os _)) ?_
  intro W base args ds gs before hval0 hW _ _ hL _
  have hval : ∀ (j : Nat) t v, Tryd.f3.params[j]? = some t → args[j]? = some v → Value.okWide Tryd.prog W .any base t v := hval0
  have hW' := hW
  obtain ⟨p, q, hA0, hV, rfl, _, _⟩ := hW
  have hA : DataW.TrodAll enc Tryd.prog W 0 (fun _ => true) true Tryd.f3.params.toList args.toList ds p := hA0
  rw [Tryd.params3] at hA hval
  obtain ⟨v0, d0, rfl, rfl, h0⟩ := trodAll_one hA
  obtain ⟨rfl, rfl⟩ := trodVars_none hV
  obtain ⟨x, rfl, rfl, rfl, wx⟩ := open_int Tryd.underlying3 (hval 0 3 v0 rfl rfl) h0
  simp only [List.append_nil] at hW'
  refine (walk x W (fun i hi => of_laid hL i hi)).mono fun e W' ⟨he, hw⟩ => ?_
  subst he; subst hw
  exact ⟨_, rfl, post_of_same (pa := []) (pv := []) hW' (fun _ _ _ => trodAll_mk1 (shut_bool Tryd.underlying4 _)) (fun sp _ => trodAll_mk1 (shut_int Tryd.underlying3 wx)) (fun _ _ => rfl) rfl (World.keptBut_refl _ _) (fun _ => rfl) (ok_one (by kernel_rfl) rfl (okWide_bool_mk Tryd.underlying4 _))⟩

theorem holds : Rows.FnVaKindNameSaid :=
  OpenClaim.holds_of_wide 3 Tryd.f3 rfl rfl rfl rfl rfl rfl rfl ⟨rfl, rfl, rfl, rfl, rfl⟩ rfl rfl rfl rfl rfl (by kernel_rfl) Tryd.func3 (by kernel_rfl)
    (of_decide_eq_true (by kernel_rfl)) (by unfold Func.isWrapper; first | (rw [if_pos (by decide +kernel)]; kernel_rfl) | (rw [if_neg (by decide +kernel)]; exact ⟨rfl, rfl⟩))
    (fun os started H enc _ => lifted os started H enc)

theorem card_holds : Rows.FnVaKindNameCardSaid :=
  Claim7.holds_tied_plain_at .later [] [.data] true (true, "d1418c3f38be9fe6f122771c5d978cce8b04c3feb8b8c8c046b0ce490cc85ab3") false holds (fun _ h => by cases h) (by kernel_rfl) (fun _ h => by cases h) fnVaKindName_row_tie rfl ⟨rfl, rfl⟩ (by kernel_rfl) rfl
    (fun f fn hf hfn => by
      obtain rfl : f = 3 := Option.some.inj ((show Tryd.prog.funcNamed "pub-jottings/laws.FnVaKindName" = some 3 by kernel_rfl).symm.trans hf) |>.symm
      obtain rfl : fn = Tryd.f3 := (Option.some.inj (Tryd.func3.symm.trans hfn)).symm
      exact ⟨by kernel_rfl, fun j t ht => by
        rw [Tryd.params3] at ht
        have hm : t ∈ [3] := by simpa using Array.mem_of_getElem? ht
        have hall : ([3].all fun u => !Tryd.prog.wantsStandIn u) = true := by kernel_rfl
        exact (show Tryd.prog.wantsStandIn t = false by simpa using List.all_eq_true.1 hall t hm)⟩)
    (by kernel_rfl)
#print axioms card_holds
end Go.Proofs.YtngddccmkhghiaaDoor.Kind

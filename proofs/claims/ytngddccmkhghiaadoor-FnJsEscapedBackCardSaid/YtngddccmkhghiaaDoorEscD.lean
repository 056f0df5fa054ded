/- A string stands between quotation marks in JSON as the reference has it: FnJsEscaped answers true for every string. The variables safeSet, utf8.first and utf8.acceptRanges read as the program's text lays them. -/
import Derived.Test.YtngddccmkhghiaaDoorEscC
import Derived.Test.YtngddccmkhghiaaDoorTie
import Derived.Test.YtngddccmkhghiaaDoorCards
import Derived.Lib.BufferRead
import Derived.Lib.LaidU8T
import Derived.PinnedBridge
import Derived.ProofKit
import Derived.OpenShut
import Derived.LaidMore
import Derived.Lay
import Derived.SevenTiedAt
import Derived.Stop.Joined
namespace Go.Proofs.YtngddccmkhghiaaDoor.Esc
open Go Go.Lib Go.RowKit

theorem convert_own {w : World} {base : Nat} {A : Option Addr} {n c : Nat} {l : List UInt8} (h : w.ownsRow base 5 1 (.slice A n c) n (u8s l)) :
    (convert 47 9 (.slice A n c)).run Tryd.prog w = .ok (.string ⟨l.toArray⟩) w := by
  have hn : n = l.length := by have := h.1; simp [u8s] at this; omega
  rcases h.2 with ⟨h2, h3⟩ | ⟨g, cap, cur, hv, _, hh, hc, _, _, ht⟩
  · cases h2
    have : l = [] := List.eq_nil_of_length_eq_zero (by omega)
    subst this
    exact run_convert_nil_bytes w 47 9 5 0 Tryd.underlying47 Tryd.underlying5 Tryd.underlying9
  · cases hv
    subst hn
    refine run_convert_bytes_back w 47 9 5 ⟨g, 0, none⟩ _ l Tryd.underlying47 Tryd.underlying5 Tryd.underlying9 ?_
    refine bytes_of_row hh ?_
    rw [Nat.mul_one] at ht
    exact ht

theorem zz_any (s : ByteArray) (w : World) (hs : s.size ≤ 1000000) (hT : Lib.Utf8Tabs 0 1 w) (hS : SafeTab w) :
    Calls Tryd.prog 14 #[.string s] w fun e w' => e = .returned (.string ⟨(esc s.data.toList).toArray⟩) ∧ Below w.heap.size w w' := by
  go_enter Tryd.func14, Tryd.ntmps14
  go_wp2_with (go_at_call 19; refine (impl_any _ _ hs hT hS).mono ?_; rintro e w1 ⟨⟨A, n, c, rfl, hown⟩, hb⟩; have hcv := convert_own hown)
  go_ret
  exact ⟨rfl, hb⟩

theorem escaped_any (s : ByteArray) (w : World) (hs : s.size ≤ 1000000) (hT : Lib.Utf8Tabs 0 1 w) (hS : SafeTab w) :
    Calls Tryd.prog 8 #[.string s] w fun e w' => e = .returned (.string ⟨(esc s.data.toList).toArray⟩) ∧ Below w.heap.size w w' := by
  go_enter Tryd.func8, Tryd.ntmps8
  go_wp2_with (go_at_call 14; refine (zz_any _ _ hs hT hS).mono ?_; rintro e w1 ⟨rfl, hb⟩)
  go_ret
  exact ⟨rfl, hb⟩

theorem spec_str (s : ByteArray) (w : World) (hs : s.size ≤ 1000000) (hT : Lib.Utf8Tabs 0 1 w) :
    Calls Tryd.prog 9 #[.string s] w fun e w' => e = .returned (.string ⟨(esc s.data.toList).toArray⟩) ∧ Below w.heap.size w w' := by
  refine (spec_any s w hs hT).mono ?_
  rintro e w' ⟨⟨o, rfl, ho⟩, hb⟩
  refine ⟨?_, hb⟩
  rw [← ho]

theorem law (s : ByteArray) (w : World) (hs : s.size ≤ maxLen) (hT : Lib.Utf8Tabs 0 1 w) (hS : SafeTab w) :
    Calls Tryd.prog 4 #[.string s] w fun e w' => e = .returned (.bool true) ∧ Below w.heap.size w w' := by
  unfold maxLen at hs
  by_cases h1 : s.size ≤ 65536
  · have hg1 : ¬ ((s.size : Int) > 2147483647) := by omega
    have hg2 : ¬ ((s.size : Int) > 65536) := by omega
    go_enter Tryd.func4, Tryd.ntmps4
    go_wp2_with (first
      | (go_at_call 8; refine (escaped_any _ _ (by omega) hT hS).mono ?_; rintro e w1 ⟨rfl, hb1⟩)
      | (go_at_call 9; refine (spec_str _ _ (by omega) (tabs_below hT hb1)).mono ?_; rintro e w2 ⟨rfl, hb2⟩))
    go_ret
    exact ⟨by simp, hb1.trans (hb2.mono hb1.size)⟩
  · by_cases h2 : s.size ≤ 2147483647
    · have hg1 : ¬ ((s.size : Int) > 2147483647) := by omega
      have hg2 : (s.size : Int) > 65536 := by omega
      go_enter Tryd.func4, Tryd.ntmps4
      go_wp2_with fail
      go_ret
      exact ⟨rfl, Below.refl _ _⟩
    · have hg1 : (s.size : Int) > 2147483647 := by omega
      go_enter Tryd.func4, Tryd.ntmps4
      go_wp2_with fail
      go_ret
      exact ⟨rfl, Below.refl _ _⟩

theorem x8 : U8Extra Tryd.prog Tryd.lays260_ren := ⟨by kernel_rfl, by kernel_rfl, by kernel_rfl, by kernel_rfl, by kernel_rfl, by kernel_rfl, by kernel_rfl⟩

theorem tabs_of_laid {W : World} (h : laidMet Tryd.prog Rows.fnJsEscapedRow.laid W) : Lib.Utf8Tabs 0 1 W := by
  refine utf8Tabs_of_readsT (U8Types.of260 Tryd.lays260) x8 ?_ ?_
  · exact Pinned.utf8First_eq ▸ Lib.laidMet.reads h (.tail _ (.tail _ (.head _)))
  · have e : Rows.laid_unicode_utf8_acceptRanges = acceptData := by kernel_rfl
    exact e ▸ Lib.laidMet.reads h (.head _)

/-- Which bytes stand as they are, as the list has it. -/
def safeList : List Bool := (List.range 128).map safeB
theorem safe_eq : (Rows.laid_pub_jottings_pub_slog_safeSet : DataW Unit) = .agg (safeList.map fun b => .lit (.bool b)) := by kernel_rfl

theorem safe_of_laid {W : World} (h : laidMet Tryd.prog Rows.fnJsEscapedRow.laid W) : SafeTab W := by
  intro b hb
  obtain ⟨g, t, cs, fuel, p, hg, ht, hv, hd⟩ := Lib.laidMet.reads h (.tail _ (.head _))
  obtain rfl := Option.some.inj ((show Tryd.prog.globalNamed "pub-jottings/pub/slog.safeSet" = some 3 by kernel_rfl).symm.trans hg)
  obtain rfl := Option.some.inj ((show (Tryd.prog.globals[3]?).map (·.type) = some 54 by kernel_rfl).symm.trans ht)
  have c4 : Tryd.prog.cellsOf 4 = 1 := by kernel_rfl
  rw [safe_eq] at hd
  obtain ⟨fuel', d, q, hds, hE⟩ := Lib.array_elem Tryd.underlying54 hd b hb
  rw [c4, Nat.mul_one] at hE
  obtain ⟨x, e1, e2⟩ := DataW.trod_bool Tryd.underlying4 hE
  rw [World.var?_cell hg hv b]
  have hc : cs.toList[b]? = some (.bool x) := by
    have h0 : ((cs.toList.drop b).take 1)[0]? = some (.bool x) := by rw [e1]; rfl
    simpa using h0
  obtain ⟨rfl, rfl⟩ := Prod.mk.inj e2
  have hx : x = safeB b := by
    rw [List.getElem?_map] at hds
    simp only [safeList, List.getElem?_map, List.getElem?_range hb, Option.map_some, Option.some.injEq, DataW.lit.injEq, Lit.bool.injEq] at hds
    exact hds.symm
  rw [← hx]
  simpa using hc
open Go.ChangeShapes Go.WideShapes Go.ChangeAt
open Go.ChangeMaps (open_string shut_string)

theorem own : ownKnob Tryd.prog.godebug = none := by kernel_rfl
theorem laidOut : laidOutB Tryd.prog = true := by kernel_rfl

/-- The world in which the listed variables lie as the list has it. -/
theorem door_met (os : Os) (args : Array Value) : laidMetH Tryd.prog Rows.fnJsEscapedRow.laid ((World.laidAll Tryd.prog os Rows.fnJsEscapedRow.laid).forCall (fun _ _ => 0) ⟨#[], args, []⟩).memory := by
  rw [MakeChecks.laidMetH_plain _ _ _ (by kernel_rfl)]; exact laidMet_laidAll _ (by kernel_rfl) (by kernel_rfl)

set_option maxRecDepth 100000 in
theorem lifted (os : Os) (started : os.Started) (H : Type) (enc : TypeId × Value → H) :
    ReturnsInHanded {} Tryd.checked os 4 .any (fun w args => (Rows.fnJsEscapedSpec.pre enc Tryd.prog Tryd.f4 [] false w args ∧ laidMetH Tryd.prog Rows.fnJsEscapedRow.laid w) ∧ sizedMet enc Tryd.prog Tryd.f4 (OpenSpec.ofChange Rows.fnJsEscapedSpec) false w args)
      (Rows.fnJsEscapedSpec.post enc Tryd.prog Tryd.f4 false true false false) := by
  refine returnsInHanded_of_change_and (C := Tryd.checked) (X := fun w _ => laidMetH Tryd.prog Rows.fnJsEscapedRow.laid w) (fun _ _ _ hh h => h.of_heap hh) own started (by kernel_rfl) Tryd.func4
    (ChangeSpec.witness_shaped (enc := enc) (C := Tryd.checked) (os := os) (X := fun w _ => laidMetH Tryd.prog Rows.fnJsEscapedRow.laid w) false (World.laidAll Tryd.prog os Rows.fnJsEscapedRow.laid) #[.string ⟨#[]⟩] 8 (World.laidAll_os _ _ _)
      (World.shaped_of_ZipB (by kernel_rfl) (by kernel_rfl)) (by kernel_rfl) (by kernel_rfl) (by kernel_rfl) (door_met os _)) ?_
  intro W base args ds gs before hval0 hW _ _ hL _
  have hval : ∀ (j : Nat) t v, Tryd.f4.params[j]? = some t → args[j]? = some v → Value.okWide Tryd.prog W .any base t v := hval0
  have hW' := hW
  obtain ⟨p, q, hA0, hV, rfl, _, _⟩ := hW
  have hA : DataW.TrodAll enc Tryd.prog W 0 (fun _ => true) true Tryd.f4.params.toList args.toList ds p := hA0
  rw [Tryd.params4] at hA hval
  obtain ⟨v0, vs0, d0, ds0, p0, q0, hargs, rfl, rfl, h0, r0⟩ := trodAll_cons hA
  obtain ⟨rfl, rfl, rfl⟩ := trodAll_nil r0
  obtain rfl : args = #[v0] := by cases args; simp_all
  obtain ⟨rfl, rfl⟩ := trodVars_none hV
  have lt0 : ∀ x ∈ p0, x.block < W.heap.size := by obtain ⟨m, hm⟩ := h0; exact DataW.trod_lt m _ _ _ hm
  obtain ⟨s0, rfl, rfl, rfl, ws0⟩ := open_string Tryd.underlying9 (hval 0 9 v0 rfl rfl) h0
  rw [MakeChecks.laidMetH_plain _ _ _ (by kernel_rfl)] at hL
  clear hA0 hval0
  refine (law s0 W ws0 (tabs_of_laid hL) (safe_of_laid hL)).mono fun e W' ⟨he, hb⟩ => ?_
  subst he
  exact ⟨_, rfl, _, _, _, [], _, [], hW', trodAll_mk1 (shut_bool Tryd.underlying4 _), (trodAll_cons_mk (Below.trod laidOut (by kernel_rfl) (of_decide_eq_true (by kernel_rfl)) h0 hb lt0) trodAll_mk0), rfl, hb.frame _, fun h => by cases h⟩

theorem holds : Rows.FnJsEscapedSaid :=
  OpenClaim.holds_of_wide 4 Tryd.f4 rfl rfl rfl rfl rfl rfl rfl ⟨rfl, rfl, rfl, rfl, rfl⟩ rfl rfl rfl rfl rfl (by kernel_rfl) Tryd.func4 (by kernel_rfl)
    (of_decide_eq_true (by kernel_rfl)) (by unfold Func.isWrapper; first | (rw [if_pos (by decide +kernel)]; kernel_rfl) | (rw [if_neg (by decide +kernel)]; exact ⟨rfl, rfl⟩))
    (fun os started H enc _ => lifted os started H enc)

theorem card_holds : Rows.FnJsEscapedCardSaid :=
  Claim7.holds_tied_plain_at .later [] [.data, .data, .pinned] true (true, "d1418c3f38be9fe6f122771c5d978cce8b04c3feb8b8c8c046b0ce490cc85ab3") false holds (fun _ h => by cases h) (by kernel_rfl) (fun _ h => by cases h) fnJsEscaped_row_tie rfl ⟨rfl, rfl⟩ (by kernel_rfl) rfl
    (fun f fn hf hfn => by
      obtain rfl : f = 4 := Option.some.inj ((show Tryd.prog.funcNamed "pub-jottings/laws.FnJsEscaped" = some 4 by kernel_rfl).symm.trans hf) |>.symm
      obtain rfl : fn = Tryd.f4 := (Option.some.inj (Tryd.func4.symm.trans hfn)).symm
      exact ⟨by kernel_rfl, fun j t ht => by
        rw [Tryd.params4] at ht
        have hm : t ∈ [9] := by simpa using Array.mem_of_getElem? ht
        have hall : ([9].all fun u => !Tryd.prog.wantsStandIn u) = true := by kernel_rfl
        exact (show Tryd.prog.wantsStandIn t = false by simpa using List.all_eq_true.1 hall t hm)⟩)
    (by kernel_rfl)
#print axioms card_holds

end Go.Proofs.YtngddccmkhghiaaDoor.Esc

/- The statement FnRcPairs: the walk. -/
import Derived.Test.YtihhgnbgejjijaaGreatDoorImplArgs
import Derived.Test.YtihhgnbgejjijaaGreatDoorArgX
import Derived.Test.YtihhgnbgejjijaaGreatDoorFineL
namespace Go.Proofs.YtihhgnbgejjijaaGreatDoor.Va
set_option linter.unusedVariables false
set_option linter.unusedSimpArgs false
open Go Go.RowKit

theorem gsnoc_eq (k : ByteArray) (v : GVal) (l : GAttrs) : l.snoc k v = l.append (.cons k v .nil) := by rw [← snoc_append, append_nil]
/-- One round. -/
def PrRnd (p : Bool) (w : World) (l : GAttrs) (b o : Nat) (s5 s6 s20 : Value) (wr : World) : Prop :=
  ∃ (k : Nat) (rest acc : GAttrs) (n1 n2 : Nat) (xs1 xs2 : List Value), k + rest.len = l.len ∧ s20 = .int .i64 k ∧ l = acc.append rest ∧ acc.len = k ∧ RAs w rest b (o + k * 8) ∧ wr.ownsRow w.heap.size 37 9 s5 n1 xs1 ∧ RArgX w (pairArgs p acc) xs1 ∧
    wr.ownsRow w.heap.size 37 9 s6 n2 xs2 ∧ RArgX w (wholeArgs acc) xs2 ∧ (∀ g, s5.ownBlock = some g → s6.ownBlock = some g → False) ∧ Below w.heap.size w wr

section
variable (l : GAttrs) (p : Bool) (w : World) (A : Option Addr) (len cap : Nat)
set_option maxRecDepth 100000 in
set_option maxHeartbeats 400000 in
theorem lawRcPr_no1 (h2 : (2147483647 : Int) < (len : Int)) : Calls Tryz.prog 4 #[.slice A len cap, .bool p] w (YesEnd w) := by
  unfold YesEnd
  go_enter Tryz.func4, Tryz.ntmps4
  go_wp2
  go_ret
  exact ⟨rfl, Below.refl _ _⟩

set_option maxRecDepth 100000 in
set_option maxHeartbeats 400000 in
theorem lawRcPr_no2 (h2 : ¬ (2147483647 : Int) < (len : Int)) (cF : ∀ wx, Keeps w wx → Calls Tryz.prog 20 #[.slice A len cap] wx (BoolEnd false wx)) : Calls Tryz.prog 4 #[.slice A len cap, .bool p] w (YesEnd w) := by
  unfold YesEnd
  have CF := Lib.hid cF
  clear cF
  go_enter Tryz.func4, Tryz.ntmps4
  go_wp2_with (go_at_call 20; (with_reducible refine (CF.out _ (keeps_of_below (by repeat' (first | with_reducible assumption | with_reducible exact Below.refl _ _ | with_reducible refine Below.setCell ?_ ?_ _ | with_reducible refine Below.alloc ?_ ?_ _ | with_reducible refine Below.drew ?_ | with_reducible refine below_drewN ?_ _ | omega | (simp; done) | (simp; omega))))).mono ?_); rintro e w2 ⟨rfl, hb2⟩; have hB2 := keeps_below (show Below w.heap.size w _ from (by repeat' (first | with_reducible assumption | with_reducible exact Below.refl _ _ | with_reducible refine Below.setCell ?_ ?_ _ | with_reducible refine Below.alloc ?_ ?_ _ | with_reducible refine Below.drew ?_ | with_reducible refine below_drewN ?_ _ | omega | (simp; done) | (simp; omega)))) hb2)
  go_ret
  exact ⟨rfl, hB2⟩

set_option maxRecDepth 100000 in
set_option maxHeartbeats 2000000 in
theorem lawRcPr_core (h2 : ¬ (2147483647 : Int) < (len : Int)) (hl : RS w l A len) (hn : l.len ≤ 65536) (cF : ∀ wx, Keeps w wx → Calls Tryz.prog 20 #[.slice A len cap] wx (BoolEnd true wx)) (M : GAttrs) (hM : 0 < M.len)
    (cP : ∀ wx A1 l1 c1, l1 ≤ c1 → RArgS wx (pairArgs p l ++ [pEnd]) A1 l1 → Calls Tryz.prog 19 #[.slice A1 l1 c1] wx (ListPost M wx)) (cW : ∀ wx A1 l1 c1, l1 ≤ c1 → RArgS wx (wholeArgs l ++ [wEnd]) A1 l1 → Calls Tryz.prog 19 #[.slice A1 l1 c1] wx (ListPost M wx))
    (cS : ∀ wx A1 A2 l1 c1 l2 c2, RS wx M A1 l1 → RS wx M A2 l2 → Calls Tryz.prog 18 #[.slice A1 l1 c1, .slice A2 l2 c2] wx (YesEnd wx)) :
    Calls Tryz.prog 4 #[.slice A len cap, .bool p] w (YesEnd w) := by
  obtain ⟨i0, hi, hz0, hz1, hz2⟩ := info_parts infoArg
  obtain ⟨Q, hQ⟩ : ∃ Q : Ending → World → Prop, Q = YesEnd w := ⟨_, rfl⟩
  rw [← hQ]
  have HQ := Lib.hid hQ
  have CF := Lib.hid cF
  have CP := Lib.hid cP
  have CW := Lib.hid cW
  have CS := Lib.hid cS
  have HM := Lib.hid hM
  have HN := Lib.hid hn
  have Hll := Lib.hid hl.1
  have hst : ∀ wx, Below w.heap.size w wx → ∃ b o, A = (if 0 < len then some ⟨b, o, none⟩ else A) ∧ PrRnd p w l b o (.slice none 0 0) (.slice none 0 0) (.int .i64 0) wx := by
    intro wx hB
    by_cases hz : 0 < len
    · obtain ⟨b, o, e, hr⟩ := hl.2 hz
      exact ⟨b, o, by rw [if_pos hz]; exact e, 0, l, .nil, 0, 0, [], [], by omega, rfl, rfl, rfl, by simpa using hr, World.ownsRow_nil _ _ _ _, rfl, World.ownsRow_nil _ _ _ _, rfl, fun g h => (by cases h), hB⟩
    · have : l = .nil := by have := hl.1; cases l with | nil => rfl | cons k v r => simp only [GAttrs.len] at this; omega
      subst this
      exact ⟨0, 0, by rw [if_neg hz], 0, .nil, .nil, 0, 0, [], [], rfl, rfl, rfl, rfl, by unfold RAs; trivial, World.ownsRow_nil _ _ _ _, rfl, World.ownsRow_nil _ _ _ _, rfl, fun g h => (by cases h), hB⟩
  have HST := Lib.hid hst
  clear hQ cF cP cW cS hM hn hst hl
  unfold BoolEnd at CF
  unfold ListPost at CP CW
  unfold YesEnd at CS
  go_enter Tryz.func4, Tryz.ntmps4
  go_wp2_with (go_at_call 20; (with_reducible refine (CF.out _ (keeps_of_below (by repeat' (first | with_reducible assumption | with_reducible exact Below.refl _ _ | with_reducible refine Below.setCell ?_ ?_ _ | with_reducible refine Below.alloc ?_ ?_ _ | with_reducible refine Below.drew ?_ | with_reducible refine below_drewN ?_ _ | omega | (simp; done) | (simp; omega))))).mono ?_); rintro e w2 ⟨rfl, hb2⟩; have hB2 := keeps_below (show Below w.heap.size w _ from (by repeat' (first | with_reducible assumption | with_reducible exact Below.refl _ _ | with_reducible refine Below.setCell ?_ ?_ _ | with_reducible refine Below.alloc ?_ ?_ _ | with_reducible refine Below.drew ?_ | with_reducible refine below_drewN ?_ _ | omega | (simp; done) | (simp; omega)))) hb2)
  obtain ⟨b, o, hA, hs⟩ := HST.out _ hB2
  have HA := Lib.hid hA
  have HS := Lib.hid hs
  have HB2 := Lib.hid hB2
  clear hA hs hB2 HST hb2
  go_loopw [5, 6, 20] (fun x y z wr => PrRnd p w l b o x y z wr) (fun _ _ z _ => len - (intOf z).toNat)
  case atStart => exact HS.out
  case round =>
    clear HS HB2
    obtain ⟨k, rest, acc, n1, n2, xs1, xs2, hk, rfl, hval, hacc, hras, ho1, hx1, ho2, hx2, hdis, hB⟩ := hrel
    have hsz := hB.size
    have hK := keeps_of_below hB
    have HO1 := Lib.hid ho1
    have HO2 := Lib.hid ho2
    have HX1 := Lib.hid hx1
    have HX2 := Lib.hid hx2
    have HD := Lib.hid hdis
    have hn1 : n1 = 2 * acc.len := by have h1 := ho1.1; have h2 := RArgX.len _ _ hx1; rw [pairArgs_len] at h2; omega
    have hn2 : n2 = acc.len := by have h1 := ho2.1; have h2 := RArgX.len _ _ hx2; rw [wholeArgs_len] at h2; omega
    have Hn1 := Lib.hid hn1
    have Hn2 := Lib.hid hn2
    have hb1 : n1 ≤ 131072 := by have := HN.out; omega
    have hb2 : n2 ≤ 65536 := by have := HN.out; omega
    have hll := Hll.out
    cases rest with
    | nil =>
      have hke : ¬ ((k : Int) < (len : Int)) := by simp only [GAttrs.len] at hk; omega
      have Hval := Lib.hid (show l = acc by rw [hval, append_nil])
      have HB := Lib.hid hB
      clear hk hval hacc hras ho1 hx1 ho2 hx2 hdis hn1 hn2 hll hK hB
      have HD2 := Lib.hid (show u6.ownBlock = none ∨ u6.ownBlock ≠ u5.ownBlock from by
        cases h : u6.ownBlock with
        | none => exact .inl rfl
        | some g => exact .inr (fun e => HD.out g e.symm h))
      obtain rfl := Hval.out
      go_wp2_with (first
        | (at_builtin; refine wpList_append_lies _ rfl (.tmp 45) (.tmp 48) 22 rfl w.heap.size 37 i0 _ 9 104 Tryz.underlying22 hi hz0 hz1 hz2 rfl (by decide) _ n1 xs1 rfl (HO1.out.alloc _) ⟨_, 0, none⟩ 1 1 [.int .i64 1, .string ⟨#[]⟩, .int .i64 4, .int .u64 7, .string ⟨#[]⟩, .int .i64 0, .int .i64 0, .int .i64 0, .slice none 0 0] rfl rfl (by intro j u hj; exact cells_new _ _ _ _ (by simp) j u hj) (by intro u hu; simp at hu; (repeat' (rcases hu with rfl | hu)); all_goals (first | rfl | (subst hu; rfl))) (by decide) (by unfold maxLen; omega) (by omega) (by simp; omega) _ rfl ?_; intro g1 cap1 w1 hown1 hgrow1 hat1 hlt1; have HO1' := Lib.hid hown1; have HG1 := Lib.hid hgrow1; have HA1 := Lib.hid hat1; have hlg1 := hlt1; have hsz1 := hgrow1.size; simp only [World.size_alloc] at hsz1; clear hown1 hgrow1 hat1 hlt1)
        | (at_builtin; refine wpList_append_lies _ rfl (.tmp 50) (.tmp 53) 22 rfl w.heap.size 37 i0 _ 9 104 Tryz.underlying22 hi hz0 hz1 hz2 rfl (by decide) _ n2 xs2 rfl ((((HO2.out.alloc _).kept HG1.out HD2.out).alloc _)) ⟨_, 0, none⟩ 1 1 [.int .i64 0, .string ⟨#[33, 66, 65, 68, 75, 69, 89]⟩, .int .i64 4, .int .u64 7, .string ⟨#[]⟩, .int .i64 0, .int .i64 0, .int .i64 0, .slice none 0 0] rfl rfl (by intro j u hj; exact cells_new _ _ _ _ (by simp) j u hj) (by intro u hu; simp at hu; (repeat' (rcases hu with rfl | hu)); all_goals (first | rfl | (subst hu; rfl))) (by decide) (by unfold maxLen; omega) (by omega) (by simp; omega) _ rfl ?_; intro g2 cap2 w2 hown2 hgrow2 hat2 hlt2; have HO2' := Lib.hid hown2; have HG2 := Lib.hid hgrow2; have HA2 := Lib.hid hat2; have hlg2 := hlt2; have hsz2 := hgrow2.size; simp only [World.size_alloc] at hsz2; clear hown2 hgrow2 hat2 hlt2; have hA1 : u5.ownBlock = some g1 ∨ g1 = _ := HA1.out; have hA2 : u6.ownBlock = some g2 ∨ g2 = _ := HA2.out; simp only [World.size_alloc] at hA1 hA2; have hg1 : some g1 ≠ u6.ownBlock := (fun e => by rcases hA1 with h | h; exact HD.out g1 h e.symm; have := (HO2.out.lt g1 e.symm).2; omega); have hB1 : Below w.heap.size w w1 := Below.grown (HB.out.alloc (by omega) _) HG1.out (by simp; omega) (fun g hg => (HO1.out.lt g hg).1); have hB3 : Below w.heap.size w w2 := Below.grown (hB1.alloc (by omega) _) HG2.out (by simp; omega) (fun g hg => (HO2.out.lt g hg).1); have HB3 := Lib.hid hB3; obtain ⟨A5, c5, e5, hle5, hrs5⟩ := rargs_of_owns ((HO1'.out.alloc _).kept HG2.out (.inr (fun e => hg1 e))) (RArgX.app _ _ _ _ HX1.out (show RArgX w [pEnd] _ from ⟨none, 0, 0, [], rfl, RS.nil_ _ _, rfl⟩)) (keeps_of_below hB3); cases e5; obtain ⟨A6, c6, e6, hle6, hrs6⟩ := rargs_of_owns HO2'.out (RArgX.app _ _ _ _ HX2.out (show RArgX w [wEnd] _ from ⟨none, 0, 0, [], rfl, RS.nil_ _ _, rfl⟩)) (keeps_of_below hB3); cases e6; have HR5 := Lib.hid (And.intro hrs5 hle5); have HR6 := Lib.hid (And.intro hrs6 hle6); clear hA1 hA2 hg1 hB1 hB3 hrs5 hle5 hrs6 hle6 HG1 HG2 HA1 HA2 HO1' HO2')
        | (go_at_call 19; (with_reducible refine (CP.out _ _ _ _ HR5.out.2 HR5.out.1).mono ?_); rintro e w7 ⟨A7, l7, c7, rfl, hr7, hb7⟩; have HR7 := Lib.hid hr7; have HB7 := Lib.hid hb7; clear hr7 hb7)
        | (go_at_call 19; (with_reducible refine (CW.out _ _ _ _ HR6.out.2 (HR6.out.1.keep (keeps_of_below HB7.out))).mono ?_); rintro e w8 ⟨A8, l8, c8, rfl, hr8, hb8⟩; have HR8 := Lib.hid hr8; have HB8 := Lib.hid hb8; have hl8 : (0 : Int) < (l8 : Int) := (by have h1 := hr8.1; have h2 := HM.out; omega); clear hr8 hb8)
        | (go_at_call 18; (with_reducible refine (CS.out _ A7 A8 l7 c7 l8 c8 (HR7.out.rs.keep (keeps_of_below HB8.out)) HR8.out.rs).mono ?_); rintro e w9 ⟨rfl, hb9⟩; have HB9 := Lib.hid hb9; clear hb9))
      rw [HQ.out]
      exact ⟨rfl, keeps_below (keeps_below (keeps_below HB3.out HB7.out) HB8.out) HB9.out⟩
    | cons key v r =>
      have hlt : (k : Int) < (len : Int) := by simp only [GAttrs.len] at hk; omega
      have hk0 : (0 : Int) ≤ (k : Int) := by omega
      have hkk : k + 1 + r.len = l.len := by simp only [GAttrs.len] at hk; omega
      have hlp : 0 < len := by omega
      have hA : A = some ⟨b, o, none⟩ := by rw [HA.out, if_pos hlp]
      subst hA
      unfold RAs at hras
      obtain ⟨k0, hv, hr⟩ := hras
      have HR := Lib.hid hr
      have k0 := hK.cell k0
      have hvw := hv
      have hv := hv.keep hK
      obtain ⟨vk, vn, vs, vt, vl⟩ := v
      unfold RVal at hv hvw
      obtain ⟨_, _, _, _, _, _, Av2, lenv2, capv2, cw6, hw1, hw2⟩ := hvw
      obtain ⟨c0, c1, c2, c3, c4, c5, Av, lenv, capv, c6, hlenv, hAv⟩ := hv
      have heq := (hK.cell cw6).symm.trans c6
      simp only [Option.some.injEq, Value.slice.injEq] at heq
      obtain ⟨rfl, rfl, rfl⟩ := heq
      have HSw := Lib.hid (show RS w vl Av2 lenv2 from ⟨hw1, hw2⟩)
      have Hval := Lib.hid hval
      have HB := Lib.hid hB
      clear hk hval ho1 hx1 ho2 hx2 hdis hn1 hn2 hll hK hB hr hlenv hAv HA hw1 hw2 cw6
      cases p with
      | false =>
        have HD2 := Lib.hid (show u6.ownBlock = none ∨ u6.ownBlock ≠ u5.ownBlock from by
          cases h : u6.ownBlock with
          | none => exact .inl rfl
          | some g => exact .inr (fun e => HD.out g e.symm h))
        go_wp2_with (first
          | (at_builtin; refine wpList_append_lies _ rfl (.tmp 25) (.tmp 34) 22 rfl w.heap.size 37 i0 _ 9 104 Tryz.underlying22 hi hz0 hz1 hz2 rfl (by decide) _ n1 xs1 rfl ((HO1.out.alloc _).alloc _) ⟨_, 0, none⟩ 2 2 [.int .i64 1, .string ⟨#[]⟩, .int .i64 5, .int .u64 0, .string key, .int .i64 0, .int .i64 0, .int .i64 0, .slice none 0 0, .int .i64 2, .string ⟨#[]⟩, .int .i64 vk, .int .u64 vn, .string vs, .int .i64 vt.sec, .int .i64 vt.nsec, .int .i64 vt.off, .slice Av2 lenv2 capv2] rfl rfl (by intro j u hj; exact cells_new _ _ _ _ (by simp) j u hj) (by intro u hu; simp at hu; (repeat' (rcases hu with rfl | hu)); all_goals (first | rfl | (subst hu; rfl))) (by decide) (by unfold maxLen; omega) (by omega) (by simp; omega) _ rfl ?_; intro g1 cap1 w1 hown1 hgrow1 hat1 hlt1; have hbx : ∀ o', w1.cell? ⟨wr.heap.size, o', none⟩ = _ := (fun o' => World.cell?_of_block (a := ⟨wr.heap.size, o', none⟩) (hgrow1.block wr.heap.size (by simp; omega) (fun e => by have := (HO1.out.lt _ e.symm).2; omega))); have HO1' := Lib.hid hown1; have HG1 := Lib.hid hgrow1; have HA1 := Lib.hid hat1; have hlg1 := hlt1; have hsz1 := hgrow1.size; simp only [World.size_alloc] at hsz1; clear hown1 hgrow1 hat1 hlt1)
          | (at_builtin; refine wpList_append_lies _ rfl (.tmp 36) (.tmp 42) 22 rfl w.heap.size 37 i0 _ 9 104 Tryz.underlying22 hi hz0 hz1 hz2 rfl (by decide) _ n2 xs2 rfl ((((HO2.out.alloc _).alloc _).kept HG1.out HD2.out).alloc _) ⟨_, 0, none⟩ 1 1 [.int .i64 0, .string key, .int .i64 vk, .int .u64 vn, .string vs, .int .i64 vt.sec, .int .i64 vt.nsec, .int .i64 vt.off, .slice Av2 lenv2 capv2] rfl rfl (by intro j u hj; exact cells_new _ _ _ _ (by simp) j u hj) (by intro u hu; simp at hu; (repeat' (rcases hu with rfl | hu)); all_goals (first | rfl | (subst hu; rfl))) (by decide) (by unfold maxLen; omega) (by omega) (by simp; omega) _ rfl ?_; intro g2 cap2 w2 hown2 hgrow2 hat2 hlt2; have HO2' := Lib.hid hown2; have HG2 := Lib.hid hgrow2; have HA2 := Lib.hid hat2; have hlg2 := hlt2; have hsz2 := hgrow2.size; simp only [World.size_alloc] at hsz2; clear hown2 hgrow2 hat2 hlt2))
        have hA1 : u5.ownBlock = some g1 ∨ g1 = _ := HA1.out
        have hA2 : u6.ownBlock = some g2 ∨ g2 = _ := HA2.out
        simp only [World.size_alloc] at hA1 hA2
        have hg1 : some g1 ≠ u6.ownBlock := fun e => by
          rcases hA1 with h | h
          · exact HD.out g1 h e.symm
          · have := (HO2.out.lt g1 e.symm).2; omega
        have hdj : g1 ≠ g2 := fun e => by
          subst e
          rcases hA2 with h | h
          · exact hg1 h.symm
          · omega
        have hB1 : Below w.heap.size w w1 := Below.grown ((HB.out.alloc (by omega) _).alloc (by simp; omega) _) HG1.out (by simp; omega) (fun g hg => (HO1.out.lt g hg).1)
        have hB3 : Below w.heap.size w w2 := Below.grown (hB1.alloc (by omega) _) HG2.out (by simp; omega) (fun g hg => (HO2.out.lt g hg).1)
        refine ⟨⟨k + 1, r, acc.snoc key (.mk vk vn vs vt vl), n1 + 2, n2 + 1, _, _, hkk, by push_cast; rfl, by rw [snoc_append]; exact Hval.out, by rw [len_snoc]; omega, ?_, (HO1'.out.alloc _).kept HG2.out (.inr (fun e => hg1 e)), ?_, HO2'.out, ?_, fun g h1 h2 => hdj ((Option.some.inj h1).trans (Option.some.inj h2).symm), hB3⟩, ?_⟩
        · have := HR.out; rwa [show o + k * 8 + 8 = o + (k + 1) * 8 by omega] at this
        · rw [gsnoc_eq, pairArgs_app]
          exact RArgX.app _ _ _ _ HX1.out ⟨none, 0, 0, _, rfl, RS.nil_ _ _, Av2, lenv2, capv2, [], rfl, HSw.out, rfl⟩
        · rw [gsnoc_eq, wholeArgs_app]
          exact RArgX.app _ _ _ _ HX2.out ⟨Av2, lenv2, capv2, [], rfl, HSw.out, rfl⟩
        · simp only [intOf]; omega
      | true =>
        have HD2 := Lib.hid (show u6.ownBlock = none ∨ u6.ownBlock ≠ u5.ownBlock from by
          cases h : u6.ownBlock with
          | none => exact .inl rfl
          | some g => exact .inr (fun e => HD.out g e.symm h))
        go_wp2_with (first
          | (at_builtin; refine wpList_append_lies _ rfl (.tmp 25) (.tmp 34) 22 rfl w.heap.size 37 i0 _ 9 104 Tryz.underlying22 hi hz0 hz1 hz2 rfl (by decide) _ n1 xs1 rfl ((HO1.out.alloc _).alloc _) ⟨_, 0, none⟩ 2 2 [.int .i64 1, .string ⟨#[]⟩, .int .i64 5, .int .u64 0, .string key, .int .i64 0, .int .i64 0, .int .i64 0, .slice none 0 0, .int .i64 1, .string ⟨#[]⟩, .int .i64 vk, .int .u64 vn, .string vs, .int .i64 vt.sec, .int .i64 vt.nsec, .int .i64 vt.off, .slice Av2 lenv2 capv2] rfl rfl (by intro j u hj; exact cells_new _ _ _ _ (by simp) j u hj) (by intro u hu; simp at hu; (repeat' (rcases hu with rfl | hu)); all_goals (first | rfl | (subst hu; rfl))) (by decide) (by unfold maxLen; omega) (by omega) (by simp; omega) _ rfl ?_; intro g1 cap1 w1 hown1 hgrow1 hat1 hlt1; have hbx : ∀ o', w1.cell? ⟨wr.heap.size, o', none⟩ = _ := (fun o' => World.cell?_of_block (a := ⟨wr.heap.size, o', none⟩) (hgrow1.block wr.heap.size (by simp; omega) (fun e => by have := (HO1.out.lt _ e.symm).2; omega))); have HO1' := Lib.hid hown1; have HG1 := Lib.hid hgrow1; have HA1 := Lib.hid hat1; have hlg1 := hlt1; have hsz1 := hgrow1.size; simp only [World.size_alloc] at hsz1; clear hown1 hgrow1 hat1 hlt1)
          | (at_builtin; refine wpList_append_lies _ rfl (.tmp 36) (.tmp 42) 22 rfl w.heap.size 37 i0 _ 9 104 Tryz.underlying22 hi hz0 hz1 hz2 rfl (by decide) _ n2 xs2 rfl ((((HO2.out.alloc _).alloc _).kept HG1.out HD2.out).alloc _) ⟨_, 0, none⟩ 1 1 [.int .i64 0, .string key, .int .i64 vk, .int .u64 vn, .string vs, .int .i64 vt.sec, .int .i64 vt.nsec, .int .i64 vt.off, .slice Av2 lenv2 capv2] rfl rfl (by intro j u hj; exact cells_new _ _ _ _ (by simp) j u hj) (by intro u hu; simp at hu; (repeat' (rcases hu with rfl | hu)); all_goals (first | rfl | (subst hu; rfl))) (by decide) (by unfold maxLen; omega) (by omega) (by simp; omega) _ rfl ?_; intro g2 cap2 w2 hown2 hgrow2 hat2 hlt2; have HO2' := Lib.hid hown2; have HG2 := Lib.hid hgrow2; have HA2 := Lib.hid hat2; have hlg2 := hlt2; have hsz2 := hgrow2.size; simp only [World.size_alloc] at hsz2; clear hown2 hgrow2 hat2 hlt2))
        have hA1 : u5.ownBlock = some g1 ∨ g1 = _ := HA1.out
        have hA2 : u6.ownBlock = some g2 ∨ g2 = _ := HA2.out
        simp only [World.size_alloc] at hA1 hA2
        have hg1 : some g1 ≠ u6.ownBlock := fun e => by
          rcases hA1 with h | h
          · exact HD.out g1 h e.symm
          · have := (HO2.out.lt g1 e.symm).2; omega
        have hdj : g1 ≠ g2 := fun e => by
          subst e
          rcases hA2 with h | h
          · exact hg1 h.symm
          · omega
        have hB1 : Below w.heap.size w w1 := Below.grown ((HB.out.alloc (by omega) _).alloc (by simp; omega) _) HG1.out (by simp; omega) (fun g hg => (HO1.out.lt g hg).1)
        have hB3 : Below w.heap.size w w2 := Below.grown (hB1.alloc (by omega) _) HG2.out (by simp; omega) (fun g hg => (HO2.out.lt g hg).1)
        refine ⟨⟨k + 1, r, acc.snoc key (.mk vk vn vs vt vl), n1 + 2, n2 + 1, _, _, hkk, by push_cast; rfl, by rw [snoc_append]; exact Hval.out, by rw [len_snoc]; omega, ?_, (HO1'.out.alloc _).kept HG2.out (.inr (fun e => hg1 e)), ?_, HO2'.out, ?_, fun g h1 h2 => hdj ((Option.some.inj h1).trans (Option.some.inj h2).symm), hB3⟩, ?_⟩
        · have := HR.out; rwa [show o + k * 8 + 8 = o + (k + 1) * 8 by omega] at this
        · rw [gsnoc_eq, pairArgs_app]
          exact RArgX.app _ _ _ _ HX1.out ⟨none, 0, 0, _, rfl, RS.nil_ _ _, Av2, lenv2, capv2, [], rfl, HSw.out, rfl⟩
        · rw [gsnoc_eq, wholeArgs_app]
          exact RArgX.app _ _ _ _ HX2.out ⟨Av2, lenv2, capv2, [], rfl, HSw.out, rfl⟩
        · simp only [intOf]; omega
end

/-- laws.FnRcPairs. -/
theorem lawRcPr_any (l : GAttrs) (p : Bool) (w : World) (A : Option Addr) (len cap : Nat) (hlen : l.len ≤ 140737488355328) (hw : l.wf) (hl : RS w l A len) :
    Calls Tryz.prog 4 #[.slice A len cap, .bool p] w (YesEnd w) := by
  have hll := hl.1
  by_cases h2 : (2147483647 : Int) < (len : Int)
  · exact lawRcPr_no1 p w A len cap h2
  have cF := fun wx (hk : Keeps w wx) => fineAll_any l wx A len cap hw (hl.keep hk) (by omega)
  by_cases h3 : 0 ≤ vaLeftAll l 20 65536
  · rw [decide_eq_true h3] at cF
    obtain ⟨ga, sa⟩ := leftAll_good l 20 65536 h3
    have sza : l.size ≤ 65536 := by omega
    have hls := len_le_size l
    obtain ⟨p1, p2, p3, p4⟩ := pair_facts p l ga hw
    obtain ⟨q1, q2, q3, q4⟩ := whole_facts l ga hw
    have gw : argsGood (wholeArgs l ++ [wEnd]) := argsGood_app _ _ q1 ⟨by simp [wEnd], good_seven, trivial⟩
    have ww : argsWf (wholeArgs l ++ [wEnd]) := argsWf_app _ _ q2 ⟨⟨by simp [wEnd], by unfold wEnd; exact badKey_size, wf_seven⟩, trivial⟩
    have gp : argsGood (pairArgs p l ++ [pEnd]) := argsGood_app _ _ p1 ⟨by simp [pEnd], good_seven, trivial⟩
    have wp : argsWf (pairArgs p l ++ [pEnd]) := argsWf_app _ _ p2 ⟨⟨by simp [pEnd], Nat.zero_le _, wf_seven⟩, trivial⟩
    have zw : argsSize (wholeArgs l ++ [wEnd]) ≤ 65537 := by rw [argsSize_app]; simp only [argsSize, wEnd, GVal.size, GAttrs.size]; omega
    have zp : argsSize (pairArgs p l ++ [pEnd]) ≤ 131073 := by rw [argsSize_app]; simp only [argsSize, pEnd, GVal.size, GAttrs.size]; omega
    have hM := whole_some l
    have hlw : (wholeArgs l ++ [wEnd]).length ≤ 140737488355328 := by rw [List.length_append, wholeArgs_len]; simp; omega
    have hr := argsTold_refl _ gw ww hlw
    have hz := argsTold_size (wholeArgs l ++ [wEnd])
    have hml := len_le_size (argsTold (wholeArgs l ++ [wEnd]))
    refine lawRcPr_core l p w A len cap h2 hl (by omega) cF (argsTold (wholeArgs l ++ [wEnd])) hM (fun wx A1 l1 c1 hlc h => ?_) (fun wx A1 l1 c1 hlc h => implArgs_any _ wx A1 l1 c1 (argsOk_each _ gw (whole_each l sza)) (by omega) q4 ww hlc h) (fun wx A1 A2 l1 c1 l2 c2 h1 h2 => same_any_l _ (by omega) _ wx A1 A2 l1 c1 l2 c2 hr (by omega) h1 h2)
    have := implArgs_any _ wx A1 l1 c1 (argsOk_each _ gp (pair_each p l sza)) (by omega) (p4 [pEnd] trivial) wp hlc h
    rw [pair_told] at this
    exact this
  · rw [decide_eq_false h3] at cF
    exact lawRcPr_no2 p w A len cap h2 cF

end Go.Proofs.YtihhgnbgejjijaaGreatDoor.Va

/- What impl.told tells of a *Source. -/
import Derived.Test.YtdeomgfapffidaaGreatDoorToldB
import Derived.Deep.RegionHeld3
namespace Go.Proofs.YtdeomgfapffidaaGreatDoor.Va
set_option linter.unusedVariables false
set_option linter.unusedSimpArgs false
open Go Go.RowKit

theorem cell_set7 {w : World} {c b : Nat} (h : ¬ c = b) (o : Nat) (v0 v1 v2 v3 v4 v5 v6 : Value) : (((((((w.setCell ⟨c, 0, none⟩ v0).setCell ⟨c, 1, none⟩ v1).setCell ⟨c, 2, none⟩ v2).setCell ⟨c, 3, none⟩ v3).setCell ⟨c, 4, none⟩ v4).setCell ⟨c, 5, none⟩ v5).setCell ⟨c, 6, none⟩ v6).cell? ⟨b, o, none⟩ = w.cell? ⟨b, o, none⟩ := by
  have hne : ∀ i : Nat, (⟨c, i, none⟩ : Addr) ≠ ⟨b, o, none⟩ := by intro i e; cases e; exact h rfl
  rw [World.cell?_setCell_other _ _ _ _ (hne _), World.cell?_setCell_other _ _ _ _ (hne _), World.cell?_setCell_other _ _ _ _ (hne _), World.cell?_setCell_other _ _ _ _ (hne _), World.cell?_setCell_other _ _ _ _ (hne _), World.cell?_setCell_other _ _ _ _ (hne _), World.cell?_setCell_other _ _ _ _ (hne _)]

set_option maxRecDepth 100000 in
set_option maxHeartbeats 1000000 in
theorem told_any_source {P : Nat → Prop} (f s : ByteArray) (n : Int) (w : World) (b : Nat) (hR : RAny P w (.source f s n) (.iface 107 (.pointer (some ⟨b, 0, none⟩)))) : Calls Tryz.prog 44 #[.agg #[.int .u64 0, .iface 107 (.pointer (some ⟨b, 0, none⟩))]] w (TidyPost (.mk 0 13 s ⟨n, 0, 0⟩ (extraTold f)) w) := by
  unfold TidyPost
  have cK := fun wx (hk : Keeps w wx) => kind_any (P := P) (.any (.source f s n)) wx (.int .u64 0) (.iface 107 (.pointer (some ⟨b, 0, none⟩))) (by unfold RSV; exact ⟨rfl, hR.turn (hk.on P) (fun _ x _ => x)⟩)
  simp only [SVal.kind] at cK
  have CK := Lib.hid cK
  clear cK
  have cG := fun wx (hk : Keeps w wx) => anyG_any (P := P) (.source f s n) wx (.int .u64 0) (.iface 107 (.pointer (some ⟨b, 0, none⟩))) (by unfold RSV; exact ⟨rfl, hR.turn (hk.on P) (fun _ x _ => x)⟩)
  simp only [outOf] at cG
  have CG := Lib.hid cG
  clear cG
  simp only [RAny] at hR
  obtain ⟨b', e, _, h0, h1, h2⟩ := hR
  have e' : b' = b := by injection e with _ e; injection e with e; injection e with e; injection e with e; exact e.symm
  subst e'
  clear e
  have hbl : b' < w.heap.size := World.block_lt_of_cell? w _ h0
  have H0 := Lib.hid h0
  have H1 := Lib.hid h1
  have H2 := Lib.hid h2
  clear h0 h1 h2
  go_enter Tryz.func44, Tryz.ntmps44
  go_wp2_with (first
    | (go_at_call 70; (with_reducible refine (CK.out _ (keeps_of_below (by repeat' (first | with_reducible assumption | with_reducible exact Below.refl _ _ | with_reducible refine Below.setCell ?_ ?_ _ | with_reducible refine Below.alloc ?_ ?_ _ | with_reducible refine Below.drew ?_ | with_reducible refine below_drewN ?_ _ | omega | (simp; done) | (simp; omega))))).mono ?_); rintro e w1 ⟨rfl, hb1⟩; have hB1 := keeps_below (show Below w.heap.size w _ from (by repeat' (first | with_reducible assumption | with_reducible exact Below.refl _ _ | with_reducible refine Below.setCell ?_ ?_ _ | with_reducible refine Below.alloc ?_ ?_ _ | with_reducible refine Below.drew ?_ | with_reducible refine below_drewN ?_ _ | omega | (simp; done) | (simp; omega)))) hb1; obtain ⟨hc1, hf1⟩ := bcell hb1; have hz1 := hb1.size; (try simp at hz1); have e10 : w.heap.size < w1.heap.size := (by omega); (try have e11 : w.heap.size + 1 < w1.heap.size := (by omega)))
    | (go_at_call 48; refine (CG.out _ (keeps_of_below hB1)).mono ?_; rintro e w2 ⟨rfl, hb2⟩; have hB2 := keeps_below hB1 hb2; obtain ⟨hc2, hf2⟩ := bcell hb2; have e20 : w.heap.size < w2.heap.size := Nat.lt_of_lt_of_le e10 hb2.size; have e21 : w.heap.size + 1 < w2.heap.size := Nat.lt_of_lt_of_le e11 hb2.size))
  have hn1 : ¬ w.heap.size + 1 = b' := by omega
  have hn2 : ¬ b' = w.heap.size + 1 := by omega
  have hn3 : b' < w2.heap.size := by omega
  have h0 := (keeps_of_below hB2).cell H0.out
  have h1 := (keeps_of_below hB2).cell H1.out
  have h2 := (keeps_of_below hB2).cell H2.out
  have u0 := (hc2 _ 0 e11).trans (hc1 _ 0 (by simp))
  have f0 := (hf2 _ 0 e11).trans (hf1 _ 0 (by simp))
  have u1 := (hc2 _ 1 e11).trans (hc1 _ 1 (by simp))
  have f1 := (hf2 _ 1 e11).trans (hf1 _ 1 (by simp))
  have u2 := (hc2 _ 2 e11).trans (hc1 _ 2 (by simp))
  have f2 := (hf2 _ 2 e11).trans (hf1 _ 2 (by simp))
  have u3 := (hc2 _ 3 e11).trans (hc1 _ 3 (by simp))
  have f3 := (hf2 _ 3 e11).trans (hf1 _ 3 (by simp))
  have u4 := (hc2 _ 4 e11).trans (hc1 _ 4 (by simp))
  have f4 := (hf2 _ 4 e11).trans (hf1 _ 4 (by simp))
  have u5 := (hc2 _ 5 e11).trans (hc1 _ 5 (by simp))
  have f5 := (hf2 _ 5 e11).trans (hf1 _ 5 (by simp))
  have u6 := (hc2 _ 6 e11).trans (hc1 _ 6 (by simp))
  have f6 := (hf2 _ 6 e11).trans (hf1 _ 6 (by simp))
  simp [go_sem] at u0 f0 u1 f1 u2 f2 u3 f3 u4 f4 u5 f5 u6 f6
  clear hc1 hc2 hf1 hf2 hb1 hb2
  go_region_held3 (fun w' => w'.cell? ⟨b', 0, none⟩ = some (.string f) ∧ w'.cell? ⟨b', 1, none⟩ = some (.string s) ∧ w'.cell? ⟨b', 2, none⟩ = some (.int .i64 n)) (first | with_reducible exact ⟨k0, k1, k2⟩ | with_reducible exact ⟨h0, h1, h2⟩ | with_reducible exact ⟨(cell_set7 hn1 _ _ _ _ _ _ _ _).trans k0, (cell_set7 hn1 _ _ _ _ _ _ _ _).trans k1, (cell_set7 hn1 _ _ _ _ _ _ _ _).trans k2⟩ | go_keep) (first
    | (go_at_call 81; refine (extraTold_any _ _).mono ?_; rintro e w3 ⟨A3, len3, cap3, rfl, hr3, hb3⟩; have hB3 := keeps_below (show Below w.heap.size w _ from (by repeat' (first | with_reducible assumption | with_reducible exact Below.refl _ _ | with_reducible refine Below.setCell ?_ ?_ _ | with_reducible refine Below.alloc ?_ ?_ _ | with_reducible refine Below.drew ?_ | with_reducible refine below_drewN ?_ _ | omega | (simp; done) | (simp; omega)))) hb3; obtain ⟨hc3, hf3⟩ := bcell hb3; have hz3 := hb3.size; (try simp at hz3); have e30 : w.heap.size < w3.heap.size := (by omega); have e31 : w.heap.size + 1 < w3.heap.size := (by omega); have e32 : w2.heap.size < w3.heap.size + 1 := (by omega); have m0 := (hc3 _ 0 e21).trans u0; have g0 := (hf3 _ 0 e21).trans f0; have m1 := (hc3 _ 1 e21).trans u1; have g1 := (hf3 _ 1 e21).trans f1; have m2 := (hc3 _ 2 e21).trans u2; have g2 := (hf3 _ 2 e21).trans f2; have m3 := (hc3 _ 3 e21).trans u3; have g3 := (hf3 _ 3 e21).trans f3; have m4 := (hc3 _ 4 e21).trans u4; have g4 := (hf3 _ 4 e21).trans f4; have m5 := (hc3 _ 5 e21).trans u5; have g5 := (hf3 _ 5 e21).trans f5; have m6 := (hc3 _ 6 e21).trans u6; have g6 := (hf3 _ 6 e21).trans f6; clear hc3 hf3; have k0 := (keeps_of_below hb3).cell h0; have k1 := (keeps_of_below hb3).cell h1; have k2 := (keeps_of_below hb3).cell h2))
  go_wp2
  refine bodyPost_ret (v := vVal (.mk 0 13 s ⟨n, 0, 0⟩ (extraTold f)) A3 len3 cap3) ?r rfl ⟨_, _, _, rfl, ?s, ?bl⟩
  case r => simp [results, Tryz.results44, go_sem, m0, g0, m1, g1, m2, g2, m3, g3, m4, g4, m5, g5, m6, g6, GVal.zero, GTime.zero]; (try rfl); all_goals (repeat' (first | rfl | apply And.intro))
  case bl => exact below_set7 hB3 (by omega) _ _ _ _ _ _ _
  case s => exact hr3.turn (by repeat' (first | with_reducible assumption | with_reducible exact KeepsOn.refl _ _ | with_reducible refine KeepsOn.setCell ?_ ?_ _ | with_reducible refine KeepsOn.alloc ?_ _ | with_reducible refine KeepsOn.drew ?_ | (intro b hb; simp at hb ⊢; omega) | (rintro b ⟨_, hb⟩; simp at hb ⊢; omega) | (rintro b ⟨_, hb⟩; omega))) (fun b hb _ => by simp at hb ⊢; omega)

end Go.Proofs.YtdeomgfapffidaaGreatDoor.Va

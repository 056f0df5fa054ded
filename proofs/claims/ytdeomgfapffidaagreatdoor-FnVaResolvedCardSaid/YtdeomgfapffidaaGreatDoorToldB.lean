/- What impl.told tells of a value of package slog: the kinds with parts. -/
import Derived.Test.YtdeomgfapffidaaGreatDoorToldA
import Derived.Lib.BufferRead
namespace Go.Proofs.YtdeomgfapffidaaGreatDoor.Va
set_option linter.unusedVariables false
set_option linter.unusedSimpArgs false
open Go Go.RowKit

set_option maxRecDepth 100000 in
set_option maxHeartbeats 1000000 in
theorem extraTold_any (s : ByteArray) (w : World) : Calls Tryz.prog 81 #[.string s] w (ListPost (extraTold s) w) := by
  unfold ListPost
  by_cases hs : s = ByteArray.empty
  · subst hs
    go_enter Tryz.func81, Tryz.ntmps81
    go_wp2
    go_ret
    exact ⟨none, 0, 0, rfl, RSP.nil_ _ _ _, Below.refl _ _⟩
  · have hsl := toList_ne hs
    have hsz : ¬ s.size = 0 := fun h => hs (ByteArray.ext (Array.eq_empty_of_size_eq_zero h))
    go_enter Tryz.func81, Tryz.ntmps81
    go_wp2
    go_ret
    refine ⟨some ⟨w.heap.size, 0, none⟩, 1, 1, rfl, ?_, (by repeat' (first | with_reducible assumption | with_reducible exact Below.refl _ _ | with_reducible refine Below.setCell ?_ ?_ _ | with_reducible refine Below.alloc ?_ ?_ _ | with_reducible refine Below.drew ?_ | with_reducible refine below_drewN ?_ _ | omega | (simp; done) | (simp; omega)))⟩
    rw [extraTold, if_neg hsz]
    exact ⟨rfl, fun _ => ⟨_, 0, rfl, Nat.le_refl _, ras_single (d := GVal.zero) (by simp [go_sem]) (RSP.nil_ _ _ _)⟩⟩

set_option maxRecDepth 100000 in
set_option maxHeartbeats 1000000 in
theorem told_any_both (s t : ByteArray) (w : World) : Calls Tryz.prog 44 #[.agg #[.int .u64 0, .iface 160 (.agg #[.string s, .string t])]] w (TidyPost (.mk 0 15 s .zero (extraTold t)) w) := by
  unfold TidyPost
  have cK := fun wx => kind_any (P := fun _ => True) (.any (.both s t)) wx _ _ (by unfold RSV; exact ⟨rfl, rfl⟩)
  simp only [SVal.kind] at cK
  have CK := Lib.hid (fun wx (_ : Keeps w wx) => cK wx)
  clear cK
  have cG := fun wx => anyG_any (P := fun _ => True) (.both s t) wx (.int .u64 0) (.iface 160 (.agg #[.string s, .string t])) (by unfold RSV; exact ⟨rfl, rfl⟩)
  simp only [outOf] at cG
  have CG := Lib.hid (fun wx (_ : Keeps w wx) => cG wx)
  clear cG
  go_enter Tryz.func44, Tryz.ntmps44
  go_wp2_with (first
    | (go_at_call 70; (with_reducible refine (CK.out _ (keeps_of_below (by repeat' (first | with_reducible assumption | with_reducible exact Below.refl _ _ | with_reducible refine Below.setCell ?_ ?_ _ | with_reducible refine Below.alloc ?_ ?_ _ | with_reducible refine Below.drew ?_ | with_reducible refine below_drewN ?_ _ | omega | (simp; done) | (simp; omega))))).mono ?_); rintro e w1 ⟨rfl, hb1⟩; have hB1 := keeps_below (show Below w.heap.size w _ from (by repeat' (first | with_reducible assumption | with_reducible exact Below.refl _ _ | with_reducible refine Below.setCell ?_ ?_ _ | with_reducible refine Below.alloc ?_ ?_ _ | with_reducible refine Below.drew ?_ | with_reducible refine below_drewN ?_ _ | omega | (simp; done) | (simp; omega)))) hb1; obtain ⟨hc1, hf1⟩ := bcell hb1; have hz1 := hb1.size; (try simp at hz1); have e10 : w.heap.size < w1.heap.size := (by omega); (try have e11 : w.heap.size + 1 < w1.heap.size := (by omega)))
    | (go_at_call 48; refine (CG.out _ (keeps_of_below hB1)).mono ?_; rintro e w2 ⟨rfl, hb2⟩; have hB2 := keeps_below hB1 hb2; obtain ⟨hc2, hf2⟩ := bcell hb2; have e20 : w.heap.size < w2.heap.size := Nat.lt_of_lt_of_le e10 hb2.size; have e21 : w.heap.size + 1 < w2.heap.size := Nat.lt_of_lt_of_le e11 hb2.size))
  have hn1 : ¬ w.heap.size + 1 = w2.heap.size := by omega
  have hn2 : ¬ w2.heap.size = w.heap.size + 1 := by omega
  go_region_held_law (fun w' => w'.cell? ⟨w2.heap.size, 0, none⟩ = some (.string s) ∧ w'.cell? ⟨w2.heap.size, 1, none⟩ = some (.string t)) (go_keep) (first
    | (go_at_call 81; refine (extraTold_any _ _).mono ?_; rintro e w3 ⟨A3, len3, cap3, rfl, hr3, hb3⟩; have hB3 := keeps_below (show Below w.heap.size w _ from (by repeat' (first | with_reducible assumption | with_reducible exact Below.refl _ _ | with_reducible refine Below.setCell ?_ ?_ _ | with_reducible refine Below.alloc ?_ ?_ _ | with_reducible refine Below.drew ?_ | with_reducible refine below_drewN ?_ _ | omega | (simp; done) | (simp; omega)))) hb3; obtain ⟨hc3, hf3⟩ := bcell hb3; have hz3 := hb3.size; (try simp at hz3); have e30 : w.heap.size < w3.heap.size := (by omega); have e31 : w.heap.size + 1 < w3.heap.size := (by omega); have e32 : w2.heap.size < w3.heap.size + 1 := (by omega)))
  go_wp2
  refine bodyPost_ret (v := vVal (.mk 0 15 s .zero (extraTold t)) A3 len3 cap3) ?r rfl ⟨_, _, _, rfl, ?s, ?bl⟩
  case r => simp [results, Tryz.results44, go_sem, hc1, hf1, e10, e11, hc2, hf2, e20, e21, Nat.lt_succ_of_lt e21, Nat.lt_succ_of_lt e20, Nat.ne_of_lt e21, Nat.ne_of_lt e20, hc3, hf3, e30, e31, e32, GVal.zero, GTime.zero]; (try rfl); all_goals (repeat' (first | rfl | apply And.intro))
  case bl => exact below_set7 hB3 (by omega) _ _ _ _ _ _ _
  case s => exact hr3.turn (by repeat' (first | with_reducible assumption | with_reducible exact KeepsOn.refl _ _ | with_reducible refine KeepsOn.setCell ?_ ?_ _ | with_reducible refine KeepsOn.alloc ?_ _ | with_reducible refine KeepsOn.drew ?_ | (intro b hb; simp at hb ⊢; omega) | (rintro b ⟨_, hb⟩; simp at hb ⊢; omega) | (rintro b ⟨_, hb⟩; omega))) (fun b hb _ => by simp at hb ⊢; omega)

set_option maxRecDepth 100000 in
set_option maxHeartbeats 1000000 in
theorem told_any_bytes {P : Nat → Prop} (s : ByteArray) (w : World) (A : Option Addr) (len cap : Nat) (hR : RAny P w (.bytes s) (.iface 148 (.slice A len cap))) : Calls Tryz.prog 44 #[.agg #[.int .u64 0, .iface 148 (.slice A len cap)]] w (TidyPost (.mk 0 3 s .zero .nil) w) := by
  unfold TidyPost
  have cK := fun wx (hk : Keeps w wx) => kind_any (P := P) (.any (.bytes s)) wx (.int .u64 0) (.iface 148 (.slice A len cap)) (by unfold RSV; exact ⟨rfl, hR.turn (hk.on P) (fun _ x _ => x)⟩)
  simp only [SVal.kind] at cK
  have CK := Lib.hid cK
  clear cK
  have cG := fun wx (hk : Keeps w wx) => anyG_any (P := P) (.bytes s) wx (.int .u64 0) (.iface 148 (.slice A len cap)) (by unfold RSV; exact ⟨rfl, hR.turn (hk.on P) (fun _ x _ => x)⟩)
  simp only [outOf] at cG
  have CG := Lib.hid cG
  clear cG
  have hcv : ∀ wx, Keeps w wx → (convert 148 9 (.slice A len cap)).run Tryz.prog wx = .ok (.string s) wx := by
    intro wx hk
    have h := hR.turn (hk.on P) (fun _ x _ => x)
    simp only [RAny] at h
    obtain ⟨A', len', cap', e, hl, hc⟩ := h
    injection e with _ e; injection e with e1 e2 e3
    subst e1; subst e2; subst e3
    by_cases h0 : len = 0
    · have hs : s = ByteArray.empty := ByteArray.ext (Array.eq_empty_of_size_eq_zero (show s.size = 0 by omega))
      subst hs
      have hA : A = none ∨ ∃ a, A = some a := by cases A with | none => exact .inl rfl | some a => exact .inr ⟨a, rfl⟩
      rcases hA with rfl | ⟨a, rfl⟩
      · subst h0
        exact Go.Lib.run_convert_nil_bytes (P := Tryz.prog) wx 148 9 5 cap Tryz.underlying148 Tryz.underlying5 Tryz.underlying9
      · subst h0
        exact run_convert_bytes_back (P := Tryz.prog) wx 148 9 5 a cap [] Tryz.underlying148 Tryz.underlying5 Tryz.underlying9 (fun j hj => absurd hj (Nat.not_lt_zero _))
    · obtain ⟨b, o, rfl, _, hcell⟩ := hc (by omega)
      subst hl
      have h := run_convert_bytes_back (P := Tryz.prog) wx 148 9 5 ⟨b, o, none⟩ cap s.data.toList Tryz.underlying148 Tryz.underlying5 Tryz.underlying9 (fun j hj => by
        have hh := hcell j (by simpa using hj)
        simp at hj
        have hh' : s.data.toList.getD j 0 = s.data.toList[j]'(by simpa using hj) := by simp [List.getD, hj]
        rw [hh'] at hh
        have ha : (⟨b, o, none⟩ : Addr).add j = ⟨b, o + j, none⟩ := by cases j <;> simp [Addr.add]
        rw [ha]; exact hh)
      simpa using h
  have HCV := Lib.hid hcv
  clear hcv hR
  go_enter Tryz.func44, Tryz.ntmps44
  go_wp2_with (first
    | (go_at_call 70; (with_reducible refine (CK.out _ (keeps_of_below (by repeat' (first | with_reducible assumption | with_reducible exact Below.refl _ _ | with_reducible refine Below.setCell ?_ ?_ _ | with_reducible refine Below.alloc ?_ ?_ _ | with_reducible refine Below.drew ?_ | with_reducible refine below_drewN ?_ _ | omega | (simp; done) | (simp; omega))))).mono ?_); rintro e w1 ⟨rfl, hb1⟩; have hB1 := keeps_below (show Below w.heap.size w _ from (by repeat' (first | with_reducible assumption | with_reducible exact Below.refl _ _ | with_reducible refine Below.setCell ?_ ?_ _ | with_reducible refine Below.alloc ?_ ?_ _ | with_reducible refine Below.drew ?_ | with_reducible refine below_drewN ?_ _ | omega | (simp; done) | (simp; omega)))) hb1; obtain ⟨hc1, hf1⟩ := bcell hb1; have hz1 := hb1.size; (try simp at hz1); have e10 : w.heap.size < w1.heap.size := (by omega); (try have e11 : w.heap.size + 1 < w1.heap.size := (by omega)))
    | (go_at_call 48; refine (CG.out _ (keeps_of_below hB1)).mono ?_; rintro e w2 ⟨rfl, hb2⟩; have hB2 := keeps_below hB1 hb2; have hcv2 := HCV.out _ (keeps_of_below hB2); obtain ⟨hc2, hf2⟩ := bcell hb2; have e20 : w.heap.size < w2.heap.size := Nat.lt_of_lt_of_le e10 hb2.size; have e21 : w.heap.size + 1 < w2.heap.size := Nat.lt_of_lt_of_le e11 hb2.size))
  exact bodyPost_ret (v := vVal (.mk 0 3 s .zero .nil) none 0 0) (by simp [results, Tryz.results44, go_sem, hc1, hf1, e10, e11, hc2, hf2, e20, e21, GVal.zero, GTime.zero]; try rfl) rfl ⟨none, 0, 0, rfl, RSP.nil_ _ _ _, below_set7 hB2 (by omega) _ _ _ _ _ _ _⟩

set_option maxRecDepth 100000 in
set_option maxHeartbeats 1000000 in
theorem told_throws (s : ByteArray) (c : Option Addr) (w : World) : Calls Tryz.prog 44 #[.agg #[.int .u64 0, .iface 142 (.agg #[.string s, .pointer c])]] w (TidyPost (.mk 9 0 s .zero .nil) w) := by
  unfold TidyPost
  have cK := fun wx => kind_any (P := fun _ => True) (.throws s c) wx _ _ (by unfold RSV; exact ⟨rfl, rfl⟩)
  simp only [SVal.kind] at cK
  have CK := Lib.hid (fun wx (_ : Keeps w wx) => cK wx)
  clear cK
  go_enter Tryz.func44, Tryz.ntmps44
  go_wp2_with (first
    | (go_at_call 70; (with_reducible refine (CK.out _ (keeps_of_below (by repeat' (first | with_reducible assumption | with_reducible exact Below.refl _ _ | with_reducible refine Below.setCell ?_ ?_ _ | with_reducible refine Below.alloc ?_ ?_ _ | with_reducible refine Below.drew ?_ | with_reducible refine below_drewN ?_ _ | omega | (simp; done) | (simp; omega))))).mono ?_); rintro e w1 ⟨rfl, hb1⟩; have hB1 := keeps_below (show Below w.heap.size w _ from (by repeat' (first | with_reducible assumption | with_reducible exact Below.refl _ _ | with_reducible refine Below.setCell ?_ ?_ _ | with_reducible refine Below.alloc ?_ ?_ _ | with_reducible refine Below.drew ?_ | with_reducible refine below_drewN ?_ _ | omega | (simp; done) | (simp; omega)))) hb1; obtain ⟨hc1, hf1⟩ := bcell hb1; have hz1 := hb1.size; (try simp at hz1); have e10 : w.heap.size < w1.heap.size := (by omega); (try have e11 : w.heap.size + 1 < w1.heap.size := (by omega)))
    | (go_at_call 80; refine (get_LogValuer _ _ (by decide) _ _).mono ?_; rintro e w2 ⟨rfl, hb2⟩; have hB2 := keeps_below hB1 hb2; obtain ⟨hc2, hf2⟩ := bcell hb2; have e20 : w.heap.size < w2.heap.size := Nat.lt_of_lt_of_le e10 hb2.size; have e21 : w.heap.size + 1 < w2.heap.size := Nat.lt_of_lt_of_le e11 hb2.size))
  exact bodyPost_ret (v := vVal (.mk 9 0 s .zero .nil) none 0 0) (by simp [results, Tryz.results44, go_sem, hc1, hf1, e10, e11, hc2, hf2, e20, e21, GVal.zero, GTime.zero]; try rfl) rfl ⟨none, 0, 0, rfl, RSP.nil_ _ _ _, (by repeat' (first | with_reducible assumption | with_reducible exact Below.refl _ _ | with_reducible refine Below.setCell ?_ ?_ _ | with_reducible refine Below.alloc ?_ ?_ _ | with_reducible refine Below.drew ?_ | with_reducible refine below_drewN ?_ _ | omega | (simp; done) | (simp; omega)))⟩

set_option maxRecDepth 100000 in
set_option maxHeartbeats 1000000 in
theorem told_group {P : Nat → Prop} (l : SAttrs) (ih : ToldL l) (hsz : vSizeAll l ≤ 700000) (w : World) (A : Option Addr) (len cap : Nat) (hl : RSS P w l A len) : Calls Tryz.prog 44 #[.agg #[.int .u64 len, .iface 199 (.slice A len cap)]] w (TidyPost (.mk 8 0 ByteArray.empty .zero (attrsTold l)) w) := by
  unfold TidyPost
  have cK := fun wx (hk : Keeps w wx) => kind_any (P := P) (.group l) wx (.int .u64 len) (.iface 199 (.slice A len cap)) (by unfold RSV; exact ⟨A, len, cap, rfl, rfl, hl.turn (hk.on P) (fun _ x _ => x)⟩)
  simp only [SVal.kind] at cK
  have CK := Lib.hid cK
  clear cK
  have HL := Lib.hid hl
  have Hih := Lib.hid ih
  clear hl ih
  go_enter Tryz.func44, Tryz.ntmps44
  go_wp2_with (first
    | (go_at_call 70; (with_reducible refine (CK.out _ (keeps_of_below (by repeat' (first | with_reducible assumption | with_reducible exact Below.refl _ _ | with_reducible refine Below.setCell ?_ ?_ _ | with_reducible refine Below.alloc ?_ ?_ _ | with_reducible refine Below.drew ?_ | with_reducible refine below_drewN ?_ _ | omega | (simp; done) | (simp; omega))))).mono ?_); rintro e w1 ⟨rfl, hb1⟩; have hB1 := keeps_below (show Below w.heap.size w _ from (by repeat' (first | with_reducible assumption | with_reducible exact Below.refl _ _ | with_reducible refine Below.setCell ?_ ?_ _ | with_reducible refine Below.alloc ?_ ?_ _ | with_reducible refine Below.drew ?_ | with_reducible refine below_drewN ?_ _ | omega | (simp; done) | (simp; omega)))) hb1; obtain ⟨hc1, hf1⟩ := bcell hb1; have hz1 := hb1.size; (try simp at hz1); have e10 : w.heap.size < w1.heap.size := (by omega); (try have e11 : w.heap.size + 1 < w1.heap.size := (by omega)))
    | (go_at_call 79; refine (get_Group _ _ _ _ _).mono ?_; rintro e w2 ⟨rfl, hb2⟩; have hB2 := keeps_below hB1 hb2; obtain ⟨hc2, hf2⟩ := bcell hb2; have e20 : w.heap.size < w2.heap.size := Nat.lt_of_lt_of_le e10 hb2.size; have e21 : w.heap.size + 1 < w2.heap.size := Nat.lt_of_lt_of_le e11 hb2.size)
    | (go_at_call 50; refine (Hih.out _ _ _ _ _ hsz (HL.out.turn ((keeps_of_below hB2).on P) (fun _ x _ => x))).mono ?_; rintro e w3 ⟨A3, len3, cap3, rfl, hr3, hb3⟩; have hB3 := keeps_below (show Below w.heap.size w _ from (by repeat' (first | with_reducible assumption | with_reducible exact Below.refl _ _ | with_reducible refine Below.setCell ?_ ?_ _ | with_reducible refine Below.alloc ?_ ?_ _ | with_reducible refine Below.drew ?_ | with_reducible refine below_drewN ?_ _ | omega | (simp; done) | (simp; omega)))) hb3; obtain ⟨hc3, hf3⟩ := bcell hb3; have hz3 := hb3.size; (try simp at hz3); have e30 : w.heap.size < w3.heap.size := (by omega); have e31 : w.heap.size + 1 < w3.heap.size := (by omega); have e32 : w2.heap.size < w3.heap.size + 1 := (by omega)))
  refine bodyPost_ret (v := vVal (.mk 8 0 ByteArray.empty .zero (attrsTold l)) A3 len3 cap3) ?r rfl ⟨_, _, _, rfl, ?s, ?bl⟩
  case r => simp [results, Tryz.results44, go_sem, hc1, hf1, e10, e11, hc2, hf2, e20, e21, Nat.lt_succ_of_lt e21, Nat.lt_succ_of_lt e20, Nat.ne_of_lt e21, Nat.ne_of_lt e20, hc3, hf3, e30, e31, e32, GVal.zero, GTime.zero]; (try rfl); all_goals (repeat' (first | rfl | apply And.intro))
  case bl => exact below_set7 hB3 (by omega) _ _ _ _ _ _ _
  case s => exact hr3.turn (by repeat' (first | with_reducible assumption | with_reducible exact KeepsOn.refl _ _ | with_reducible refine KeepsOn.setCell ?_ ?_ _ | with_reducible refine KeepsOn.alloc ?_ _ | with_reducible refine KeepsOn.drew ?_ | (intro b hb; simp at hb ⊢; omega) | (rintro b ⟨_, hb⟩; simp at hb ⊢; omega) | (rintro b ⟨_, hb⟩; omega))) (fun b hb _ => by simp at hb ⊢; omega)

end Go.Proofs.YtdeomgfapffidaaGreatDoor.Va

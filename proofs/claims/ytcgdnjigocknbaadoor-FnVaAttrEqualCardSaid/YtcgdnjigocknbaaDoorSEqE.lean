/- When package slog has two groups be equal (Value.Equal), and Value.Equal whole. -/
import Derived.Test.YtcgdnjigocknbaaDoorSEqD
import Derived.Deep.RegionWith
namespace Go.Proofs.YtcgdnjigocknbaaDoor.Va
set_option linter.unusedVariables false
set_option linter.unusedSimpArgs false
open Go Go.RowKit

set_option maxRecDepth 100000 in
set_option maxHeartbeats 400000 in
theorem equal_group_ok (r1 : Bool) (A A' : Option Addr) (len cap len' cap' : Nat) (w : World)
    (cF : ∀ wx, Keeps w wx → Calls Tryd.prog 58 #[.slice A len cap, .slice A' len' cap', .func (.func 28) #[] #[]] wx fun e w' => e = .returned (.bool r1) ∧ Below wx.heap.size wx w') 
    (cK : ∀ wx, Keeps w wx → Calls Tryd.prog 53 #[.agg #[.int .u64 len, (.iface 96 (.slice A len cap))]] wx fun e w' => e = .returned (.int .i64 8) ∧ Below wx.heap.size wx w')
    (cK' : ∀ wx, Keeps w wx → Calls Tryd.prog 53 #[.agg #[.int .u64 len', (.iface 96 (.slice A' len' cap'))]] wx fun e w' => e = .returned (.int .i64 8) ∧ Below wx.heap.size wx w') :
    Calls Tryd.prog 26 #[.agg #[.int .u64 len, (.iface 96 (.slice A len cap))], .agg #[.int .u64 len', (.iface 96 (.slice A' len' cap'))]] w (EqEnd (r1, false) w) := by
  obtain ⟨Q, hQ⟩ : ∃ Q, Q = EqEnd (r1, false) w := ⟨_, rfl⟩
  rw [← hQ]
  have HQ := Lib.hid hQ
  have CK := Lib.hid cK
  have CK' := Lib.hid cK'
  have CF := Lib.hid cF
  clear cK cK' cF hQ
  go_enter Tryd.func26, Tryd.ntmps26
  go_wp2_with (first
    | (go_at_call 53; with_reducible refine (CK.out _ (keeps_of_below (by repeat' (first | with_reducible assumption | with_reducible exact Below.refl _ _ | with_reducible refine Below.setCell ?_ ?_ _ | with_reducible refine Below.alloc ?_ ?_ _ | with_reducible refine Below.drew ?_ | with_reducible refine below_drewN ?_ _ | omega | (simp; done) | (simp; omega))))).mono ?_; rintro e w1 ⟨rfl, hb1⟩; have hB1 := Lib.hid (keeps_below (show Below w.heap.size w _ from (by repeat' (first | with_reducible assumption | with_reducible exact Below.refl _ _ | with_reducible refine Below.setCell ?_ ?_ _ | with_reducible refine Below.alloc ?_ ?_ _ | with_reducible refine Below.drew ?_ | with_reducible refine below_drewN ?_ _ | omega | (simp; done) | (simp; omega)))) hb1); obtain ⟨c1, f1⟩ := bcell hb1; have hs1 : w.heap.size + 1 < w1.heap.size := (by have := hb1.size; simp at this; omega); have a0 : w1.cell? ⟨w.heap.size, 0, none⟩ = some _ := ((c1 _ 0 (by first | omega | (simp; done) | (simp; omega))).trans (by simp; rfl)); have a1 : w1.cell? ⟨w.heap.size, 1, none⟩ = some _ := ((c1 _ 1 (by first | omega | (simp; done) | (simp; omega))).trans (by simp; rfl)); have b0 : w1.cell? ⟨w.heap.size + 1, 0, none⟩ = some _ := ((c1 _ 0 (by first | omega | (simp; done) | (simp; omega))).trans (by simp; rfl)); have b1 : w1.cell? ⟨w.heap.size + 1, 1, none⟩ = some _ := ((c1 _ 1 (by first | omega | (simp; done) | (simp; omega))).trans (by simp; rfl)); clear c1 f1 hb1)
    | (go_at_call 53; with_reducible refine (CK'.out _ (keeps_of_below hB1.out)).mono ?_; rintro e w2 ⟨rfl, hb2⟩; have hB2 := Lib.hid (keeps_below hB1.out hb2); obtain ⟨c2, f2⟩ := bcell hb2; have hs2 : w.heap.size + 1 < w2.heap.size := (by have := hb2.size; omega); have hs20 : w.heap.size < w2.heap.size := (by omega); have a20 := (c2 w.heap.size 0 (by omega)).trans a0; have a21 := (c2 w.heap.size 1 (by omega)).trans a1; have b20 := (c2 (w.heap.size + 1) 0 (by omega)).trans b0; have b21 := (c2 (w.heap.size + 1) 1 (by omega)).trans b1; clear c2 f2 hb2 a0 a1 b0 b1))
  go_region_held3 (fun w' => w'.cell? ⟨w.heap.size, 0, none⟩ = some (.int .u64 len) ∧ w'.cell? ⟨w.heap.size, 1, none⟩ = some (.iface 96 (.slice A len cap)) ∧ w'.cell? ⟨w.heap.size + 1, 0, none⟩ = some (.int .u64 len') ∧ w'.cell? ⟨w.heap.size + 1, 1, none⟩ = some (.iface 96 (.slice A' len' cap'))) (first | exact ⟨(hc5 _ 0 hs40).trans ((hc4 _ 0 hs30).trans ((hc3 _ 0 hs20).trans a20)), (hc5 _ 1 hs40).trans ((hc4 _ 1 hs30).trans ((hc3 _ 1 hs20).trans a21)), (hc5 _ 0 hs41).trans ((hc4 _ 0 hs31).trans ((hc3 _ 0 hs2).trans b20)), (hc5 _ 1 hs41).trans ((hc4 _ 1 hs31).trans ((hc3 _ 1 hs2).trans b21))⟩ | exact ⟨(hc4 _ 0 hs30).trans ((hc3 _ 0 hs20).trans a20), (hc4 _ 1 hs30).trans ((hc3 _ 1 hs20).trans a21), (hc4 _ 0 hs31).trans ((hc3 _ 0 hs2).trans b20), (hc4 _ 1 hs31).trans ((hc3 _ 1 hs2).trans b21)⟩ | exact ⟨(hc3 _ 0 hs20).trans a20, (hc3 _ 1 hs20).trans a21, (hc3 _ 0 hs2).trans b20, (hc3 _ 1 hs2).trans b21⟩ | go_keep) (first
    | (go_at_call 59; first | ((with_reducible refine (groupOf_any len A len cap _).mono ?_); rintro e w3 ⟨rfl, hb3⟩; obtain ⟨hc3, hf3⟩ := bcell hb3; have hs30 : w.heap.size < w3.heap.size := Nat.lt_of_lt_of_le hs20 hb3.size; have hs31 : w.heap.size + 1 < w3.heap.size := Nat.lt_of_lt_of_le hs2 hb3.size) | ((with_reducible refine (groupOf_any len' A' len' cap' _).mono ?_); rintro e w4 ⟨rfl, hb4⟩; obtain ⟨hc4, hf4⟩ := bcell hb4; have hs40 : w.heap.size < w4.heap.size := Nat.lt_of_lt_of_le hs30 hb4.size; have hs41 : w.heap.size + 1 < w4.heap.size := Nat.lt_of_lt_of_le hs31 hb4.size))
    | (go_at_call 58; (refine (CF.out _ (keeps_of_below (keeps_below (keeps_below hB2.out.drew hb3) hb4))).mono ?_); rintro e w5 ⟨rfl, hb5⟩; obtain ⟨hc5, hf5⟩ := bcell hb5))
  go_wp2
  rw [HQ.out]
  exact ⟨.inl ⟨rfl, rfl⟩, keeps_below (keeps_below (keeps_below hB2.out.drew hb3) hb4) hb5⟩

set_option maxRecDepth 100000 in
set_option maxHeartbeats 400000 in
theorem equal_group_bad  (A A' : Option Addr) (len cap len' cap' : Nat) (w : World)
    (cF : ∀ wx, Keeps w wx → Calls Tryd.prog 58 #[.slice A len cap, .slice A' len' cap', .func (.func 28) #[] #[]] wx fun e w' => (∃ t x, e = .panicked [{ v := .iface t x, recovered := false }]) ∧ Below wx.heap.size wx w') 
    (cK : ∀ wx, Keeps w wx → Calls Tryd.prog 53 #[.agg #[.int .u64 len, (.iface 96 (.slice A len cap))]] wx fun e w' => e = .returned (.int .i64 8) ∧ Below wx.heap.size wx w')
    (cK' : ∀ wx, Keeps w wx → Calls Tryd.prog 53 #[.agg #[.int .u64 len', (.iface 96 (.slice A' len' cap'))]] wx fun e w' => e = .returned (.int .i64 8) ∧ Below wx.heap.size wx w') :
    Calls Tryd.prog 26 #[.agg #[.int .u64 len, (.iface 96 (.slice A len cap))], .agg #[.int .u64 len', (.iface 96 (.slice A' len' cap'))]] w (EqEnd (false, true) w) := by
  obtain ⟨Q, hQ⟩ : ∃ Q, Q = EqEnd (false, true) w := ⟨_, rfl⟩
  rw [← hQ]
  have HQ := Lib.hid hQ
  have CK := Lib.hid cK
  have CK' := Lib.hid cK'
  have CF := Lib.hid cF
  clear cK cK' cF hQ
  go_enter Tryd.func26, Tryd.ntmps26
  go_wp2_with (first
    | (go_at_call 53; with_reducible refine (CK.out _ (keeps_of_below (by repeat' (first | with_reducible assumption | with_reducible exact Below.refl _ _ | with_reducible refine Below.setCell ?_ ?_ _ | with_reducible refine Below.alloc ?_ ?_ _ | with_reducible refine Below.drew ?_ | with_reducible refine below_drewN ?_ _ | omega | (simp; done) | (simp; omega))))).mono ?_; rintro e w1 ⟨rfl, hb1⟩; have hB1 := Lib.hid (keeps_below (show Below w.heap.size w _ from (by repeat' (first | with_reducible assumption | with_reducible exact Below.refl _ _ | with_reducible refine Below.setCell ?_ ?_ _ | with_reducible refine Below.alloc ?_ ?_ _ | with_reducible refine Below.drew ?_ | with_reducible refine below_drewN ?_ _ | omega | (simp; done) | (simp; omega)))) hb1); obtain ⟨c1, f1⟩ := bcell hb1; have hs1 : w.heap.size + 1 < w1.heap.size := (by have := hb1.size; simp at this; omega); have a0 : w1.cell? ⟨w.heap.size, 0, none⟩ = some _ := ((c1 _ 0 (by first | omega | (simp; done) | (simp; omega))).trans (by simp; rfl)); have a1 : w1.cell? ⟨w.heap.size, 1, none⟩ = some _ := ((c1 _ 1 (by first | omega | (simp; done) | (simp; omega))).trans (by simp; rfl)); have b0 : w1.cell? ⟨w.heap.size + 1, 0, none⟩ = some _ := ((c1 _ 0 (by first | omega | (simp; done) | (simp; omega))).trans (by simp; rfl)); have b1 : w1.cell? ⟨w.heap.size + 1, 1, none⟩ = some _ := ((c1 _ 1 (by first | omega | (simp; done) | (simp; omega))).trans (by simp; rfl)); clear c1 f1 hb1)
    | (go_at_call 53; with_reducible refine (CK'.out _ (keeps_of_below hB1.out)).mono ?_; rintro e w2 ⟨rfl, hb2⟩; have hB2 := Lib.hid (keeps_below hB1.out hb2); obtain ⟨c2, f2⟩ := bcell hb2; have hs2 : w.heap.size + 1 < w2.heap.size := (by have := hb2.size; omega); have hs20 : w.heap.size < w2.heap.size := (by omega); have a20 := (c2 w.heap.size 0 (by omega)).trans a0; have a21 := (c2 w.heap.size 1 (by omega)).trans a1; have b20 := (c2 (w.heap.size + 1) 0 (by omega)).trans b0; have b21 := (c2 (w.heap.size + 1) 1 (by omega)).trans b1; clear c2 f2 hb2 a0 a1 b0 b1))
  refine wp_region_any (by kernel_rfl) ?_
  change wpAny _ _ _ _ _ _ _ (World.drew _)
  refine wpAny_ready (rs := [0, 2]) (by kernel_rfl) (by simp) ?_
  refine AllReady.cons rfl (fun K hK => ?_) ?_
  · go_simp
    refine hK _ _ ?_
    clear hK K
    refine wpAny_ready (rs := [1, 2]) (by kernel_rfl) (by simp) ?_
    refine AllReady.cons rfl (fun K hK => ?_) ?_
    · go_simp
      go_wp2_with (first
        | (go_at_call 59; first | ((with_reducible refine (groupOf_any len A len cap _).mono ?_); rintro e w3 ⟨rfl, hb3⟩; obtain ⟨hc3, hf3⟩ := bcell hb3; have hs30 : w.heap.size < w3.heap.size := Nat.lt_of_lt_of_le hs20 hb3.size; have hs31 : w.heap.size + 1 < w3.heap.size := Nat.lt_of_lt_of_le hs2 hb3.size; have k30 := (hc3 _ 0 hs20).trans a20; have k31 := (hc3 _ 1 hs20).trans a21; have k32 := (hc3 _ 0 hs2).trans b20; have k33 := (hc3 _ 1 hs2).trans b21) | ((with_reducible refine (groupOf_any len' A' len' cap' _).mono ?_); rintro e w4 ⟨rfl, hb4⟩; obtain ⟨hc4, hf4⟩ := bcell hb4; have hs40 : w.heap.size < w4.heap.size := Nat.lt_of_lt_of_le hs30 hb4.size; have hs41 : w.heap.size + 1 < w4.heap.size := Nat.lt_of_lt_of_le hs31 hb4.size)))
      refine wpAny_ready (rs := [2]) (by kernel_rfl) (by simp) ?_
      refine AllReady.cons rfl (fun K hK => ?_) ?_
      · go_simp
        refine hK _ _ ?_
        clear hK K
        refine wpAny_ready (rs := [3]) (by kernel_rfl) (by simp) ?_
        refine AllReady.cons rfl (fun K hK => ?_) ?_
        · go_simp
          go_wp2_with (first
            | (go_at_call 59; first | ((with_reducible refine (groupOf_any len A len cap _).mono ?_); rintro e w3 ⟨rfl, hb3⟩; obtain ⟨hc3, hf3⟩ := bcell hb3; have hs30 : w.heap.size < w3.heap.size := Nat.lt_of_lt_of_le hs20 hb3.size; have hs31 : w.heap.size + 1 < w3.heap.size := Nat.lt_of_lt_of_le hs2 hb3.size; have k30 := (hc3 _ 0 hs20).trans a20; have k31 := (hc3 _ 1 hs20).trans a21; have k32 := (hc3 _ 0 hs2).trans b20; have k33 := (hc3 _ 1 hs2).trans b21) | ((with_reducible refine (groupOf_any len' A' len' cap' _).mono ?_); rintro e w4 ⟨rfl, hb4⟩; obtain ⟨hc4, hf4⟩ := bcell hb4; have hs40 : w.heap.size < w4.heap.size := Nat.lt_of_lt_of_le hs30 hb4.size; have hs41 : w.heap.size + 1 < w4.heap.size := Nat.lt_of_lt_of_le hs31 hb4.size)))
          refine wpAny_ready (rs := [4]) (by kernel_rfl) (by simp) ?_
          refine AllReady.cons rfl (fun K hK => ?_) ?_
          · go_simp
            go_wp2_with (go_at_call 58; (refine (CF.out _ (keeps_of_below (keeps_below (keeps_below hB2.out.drew hb3) hb4))).mono ?_); rintro e w5 ⟨⟨tx, xx, rfl⟩, hb5⟩; exact ⟨rfl, (by rw [HQ.out]; exact ⟨.inr ⟨rfl, _, _, rfl⟩, keeps_below (keeps_below (keeps_below hB2.out.drew hb3) hb4) hb5⟩)⟩)
          exact AllReady.nil
        exact AllReady.nil
      exact AllReady.nil
    refine AllReady.cons rfl (fun K hK => ?_) ?_
    · go_simp
      refine hK _ _ ?_
      clear hK K
      refine wpAny_ready (rs := [1]) (by kernel_rfl) (by simp) ?_
      refine AllReady.cons rfl (fun K hK => ?_) ?_
      · go_simp
        go_wp2_with (first
          | (go_at_call 59; first | ((with_reducible refine (groupOf_any len A len cap _).mono ?_); rintro e w3 ⟨rfl, hb3⟩; obtain ⟨hc3, hf3⟩ := bcell hb3; have hs30 : w.heap.size < w3.heap.size := Nat.lt_of_lt_of_le hs20 hb3.size; have hs31 : w.heap.size + 1 < w3.heap.size := Nat.lt_of_lt_of_le hs2 hb3.size; have k30 := (hc3 _ 0 hs20).trans a20; have k31 := (hc3 _ 1 hs20).trans a21; have k32 := (hc3 _ 0 hs2).trans b20; have k33 := (hc3 _ 1 hs2).trans b21) | ((with_reducible refine (groupOf_any len' A' len' cap' _).mono ?_); rintro e w4 ⟨rfl, hb4⟩; obtain ⟨hc4, hf4⟩ := bcell hb4; have hs40 : w.heap.size < w4.heap.size := Nat.lt_of_lt_of_le hs30 hb4.size; have hs41 : w.heap.size + 1 < w4.heap.size := Nat.lt_of_lt_of_le hs31 hb4.size)))
        refine wpAny_ready (rs := [3]) (by kernel_rfl) (by simp) ?_
        refine AllReady.cons rfl (fun K hK => ?_) ?_
        · go_simp
          go_wp2_with (first
            | (go_at_call 59; first | ((with_reducible refine (groupOf_any len A len cap _).mono ?_); rintro e w3 ⟨rfl, hb3⟩; obtain ⟨hc3, hf3⟩ := bcell hb3; have hs30 : w.heap.size < w3.heap.size := Nat.lt_of_lt_of_le hs20 hb3.size; have hs31 : w.heap.size + 1 < w3.heap.size := Nat.lt_of_lt_of_le hs2 hb3.size; have k30 := (hc3 _ 0 hs20).trans a20; have k31 := (hc3 _ 1 hs20).trans a21; have k32 := (hc3 _ 0 hs2).trans b20; have k33 := (hc3 _ 1 hs2).trans b21) | ((with_reducible refine (groupOf_any len' A' len' cap' _).mono ?_); rintro e w4 ⟨rfl, hb4⟩; obtain ⟨hc4, hf4⟩ := bcell hb4; have hs40 : w.heap.size < w4.heap.size := Nat.lt_of_lt_of_le hs30 hb4.size; have hs41 : w.heap.size + 1 < w4.heap.size := Nat.lt_of_lt_of_le hs31 hb4.size)))
          refine wpAny_ready (rs := [4]) (by kernel_rfl) (by simp) ?_
          refine AllReady.cons rfl (fun K hK => ?_) ?_
          · go_simp
            go_wp2_with (go_at_call 58; (refine (CF.out _ (keeps_of_below (keeps_below (keeps_below hB2.out.drew hb3) hb4))).mono ?_); rintro e w5 ⟨⟨tx, xx, rfl⟩, hb5⟩; exact ⟨rfl, (by rw [HQ.out]; exact ⟨.inr ⟨rfl, _, _, rfl⟩, keeps_below (keeps_below (keeps_below hB2.out.drew hb3) hb4) hb5⟩)⟩)
          exact AllReady.nil
        exact AllReady.nil
      exact AllReady.nil
    exact AllReady.nil
  refine AllReady.cons rfl (fun K hK => ?_) ?_
  · go_simp
    refine hK _ _ ?_
    clear hK K
    refine wpAny_ready (rs := [0]) (by kernel_rfl) (by simp) ?_
    refine AllReady.cons rfl (fun K hK => ?_) ?_
    · go_simp
      refine hK _ _ ?_
      clear hK K
      refine wpAny_ready (rs := [1]) (by kernel_rfl) (by simp) ?_
      refine AllReady.cons rfl (fun K hK => ?_) ?_
      · go_simp
        go_wp2_with (first
          | (go_at_call 59; first | ((with_reducible refine (groupOf_any len A len cap _).mono ?_); rintro e w3 ⟨rfl, hb3⟩; obtain ⟨hc3, hf3⟩ := bcell hb3; have hs30 : w.heap.size < w3.heap.size := Nat.lt_of_lt_of_le hs20 hb3.size; have hs31 : w.heap.size + 1 < w3.heap.size := Nat.lt_of_lt_of_le hs2 hb3.size; have k30 := (hc3 _ 0 hs20).trans a20; have k31 := (hc3 _ 1 hs20).trans a21; have k32 := (hc3 _ 0 hs2).trans b20; have k33 := (hc3 _ 1 hs2).trans b21) | ((with_reducible refine (groupOf_any len' A' len' cap' _).mono ?_); rintro e w4 ⟨rfl, hb4⟩; obtain ⟨hc4, hf4⟩ := bcell hb4; have hs40 : w.heap.size < w4.heap.size := Nat.lt_of_lt_of_le hs30 hb4.size; have hs41 : w.heap.size + 1 < w4.heap.size := Nat.lt_of_lt_of_le hs31 hb4.size)))
        refine wpAny_ready (rs := [3]) (by kernel_rfl) (by simp) ?_
        refine AllReady.cons rfl (fun K hK => ?_) ?_
        · go_simp
          go_wp2_with (first
            | (go_at_call 59; first | ((with_reducible refine (groupOf_any len A len cap _).mono ?_); rintro e w3 ⟨rfl, hb3⟩; obtain ⟨hc3, hf3⟩ := bcell hb3; have hs30 : w.heap.size < w3.heap.size := Nat.lt_of_lt_of_le hs20 hb3.size; have hs31 : w.heap.size + 1 < w3.heap.size := Nat.lt_of_lt_of_le hs2 hb3.size; have k30 := (hc3 _ 0 hs20).trans a20; have k31 := (hc3 _ 1 hs20).trans a21; have k32 := (hc3 _ 0 hs2).trans b20; have k33 := (hc3 _ 1 hs2).trans b21) | ((with_reducible refine (groupOf_any len' A' len' cap' _).mono ?_); rintro e w4 ⟨rfl, hb4⟩; obtain ⟨hc4, hf4⟩ := bcell hb4; have hs40 : w.heap.size < w4.heap.size := Nat.lt_of_lt_of_le hs30 hb4.size; have hs41 : w.heap.size + 1 < w4.heap.size := Nat.lt_of_lt_of_le hs31 hb4.size)))
          refine wpAny_ready (rs := [4]) (by kernel_rfl) (by simp) ?_
          refine AllReady.cons rfl (fun K hK => ?_) ?_
          · go_simp
            go_wp2_with (go_at_call 58; (refine (CF.out _ (keeps_of_below (keeps_below (keeps_below hB2.out.drew hb3) hb4))).mono ?_); rintro e w5 ⟨⟨tx, xx, rfl⟩, hb5⟩; exact ⟨rfl, (by rw [HQ.out]; exact ⟨.inr ⟨rfl, _, _, rfl⟩, keeps_below (keeps_below (keeps_below hB2.out.drew hb3) hb4) hb5⟩)⟩)
          exact AllReady.nil
        exact AllReady.nil
      exact AllReady.nil
    exact AllReady.nil
  exact AllReady.nil

theorem equal_group (l l' : SAttrs) (ih : ∀ d : SVal, sSize d ≤ sSizeAll l → SEqV d) {P P' : Nat → Prop} (hd : ∀ b, P b → ¬ P' b) (hz : l.len ≤ 140737488355328) (hq : sQuietAll l) (hq' : sQuietAll l') (w : World) (x y x' y' : Value)
    (h : RSV P w (.group l) x y) (h' : RSV P' w (.group l') x' y') : Calls Tryd.prog 26 #[.agg #[x, y], .agg #[x', y']] w (EqEnd (sEqual (.group l) (.group l')) w) := by
  have cK := fun wx (hx : Keeps w wx) => kind_any (.group l) wx _ _ (h.keep hx)
  have cK' := fun wx (hx : Keeps w wx) => kind_any (.group l') wx _ _ (h'.keep hx)
  simp only [SVal.kind] at cK cK'
  unfold RSV at h h'
  obtain ⟨A, len, cap, rfl, rfl, hl, hr⟩ := h
  obtain ⟨A', len', cap', rfl, rfl, hl', hr'⟩ := h'
  by_cases hne : len = len'
  · subst hne
    have e : sEqual (.group l) (.group l') = sEqualAll l l' := by unfold sEqual; rw [if_neg (by omega)]
    rw [e]
    have cF := fun wx (hx : Keeps w wx) => eqFunc_any l l' hd hq hq' A A' len cap cap' wx ((show RSS P w l A len from ⟨hl, hr⟩).keep hx) ((show RSS P' w l' A' len from ⟨hl', hr'⟩).keep hx) (by omega) ih
    generalize sEqualAll l l' = r at cF
    obtain ⟨r1, r2⟩ := r
    cases r2 with
    | false =>
      exact equal_group_ok r1 A A' len cap len cap' w (fun wx hx => (cF wx hx).mono fun e w' hh => by
        rcases hh with ⟨⟨_, hh⟩ | ⟨hh, _⟩, hb⟩
        · exact ⟨hh, hb⟩
        · cases hh) cK cK'
    | true =>
      refine (equal_group_bad A A' len cap len cap' w (fun wx hx => (cF wx hx).mono fun e w' hh => by
        rcases hh with ⟨⟨hh, _⟩ | ⟨_, hh⟩, hb⟩
        · cases hh
        · exact ⟨hh, hb⟩) cK cK').mono fun e w' hh => ?_
      rcases hh with ⟨⟨hh, _⟩ | ⟨_, hh⟩, hb⟩
      · cases hh
      · exact ⟨.inr ⟨rfl, hh⟩, hb⟩
  · have e : sEqual (.group l) (.group l') = (false, false) := by unfold sEqual; rw [if_pos (by omega)]
    rw [e]
    exact equal_group_ok false A A' len cap len' cap' w (fun wx hx => (eqFunc_ne A A' len cap len' cap' hne _ wx).mono fun e w' hh => by
        rcases hh with ⟨⟨_, hh⟩ | ⟨hh, _⟩, hb⟩
        · exact ⟨hh, hb⟩
        · cases hh) cK cK'

/-- (slog.Value).Equal. -/
theorem equal_size : ∀ (n : Nat) (d : SVal), sSize d ≤ n → SEqV d := by
  intro n
  induction n with
  | zero => intro d hd; cases d <;> simp [sSize] at hd
  | succ n ihn =>
    intro d hn d' P P' w x y x' y' hd hq hq' h h'
    by_cases hk : d.kind = d'.kind
    · cases d with
      | num k n1 =>
        cases d' with
        | num k' n2 =>
          obtain rfl : k = k' := hk
          have e : sEqual (.num k n1) (.num k n2) = if k = 3 then (feq n1 n2, false) else (decide (n1 = n2), false) := by unfold sEqual; rw [if_neg (by simp)]
          rw [e]
          have h0 := h
          have h0' := h'
          unfold RSV at h0 h0'
          obtain ⟨rfl, rfl, hkk, _⟩ := h0
          obtain ⟨rfl, rfl, _⟩ := h0'
          rcases hkk with rfl | rfl | rfl | rfl | rfl
          · exact equal_num1 n1 n2 w h h'
          · exact equal_num2 n1 n2 w h h'
          · exact equal_float n1 n2 w h h'
          · exact equal_num4 n1 n2 w h h'
          · exact equal_num7 n1 n2 w h h'
        | _ =>
          unfold RSV at h
          obtain ⟨_, _, hkk, _⟩ := h
          simp only [SVal.kind] at hk
          exfalso
          omega
      | str s =>
        cases d' with
        | num k n2 => unfold RSV at h'; obtain ⟨_, _, hkk, _⟩ := h'; simp only [SVal.kind] at hk; exfalso; omega
        | str s' =>
          have h0 := h
          have h0' := h'
          unfold RSV at h0 h0'
          obtain ⟨rfl, rfl⟩ := h0
          obtain ⟨rfl, rfl⟩ := h0'
          have e : sEqual (.str s) (.str s') = (decide (s = s'), false) := by unfold sEqual; rfl
          rw [e]
          exact equal_str s s' w h h'
        | _ => exfalso; simp [SVal.kind] at hk
      | time t =>
        cases d' with
        | num k n2 => unfold RSV at h'; obtain ⟨_, _, hkk, _⟩ := h'; simp only [SVal.kind] at hk; exfalso; omega
        | time t' =>
          have h0 := h
          have h0' := h'
          unfold RSV at h0 h0'
          obtain ⟨rfl, rfl⟩ := h0
          obtain ⟨rfl, rfl⟩ := h0'
          have e : sEqual (.time t) (.time t') = (decide (t.sec = t'.sec) && decide (t.nsec = t'.nsec), false) := by unfold sEqual; rfl
          rw [e]
          exact equal_time t t' w h h'
        | _ => exfalso; simp [SVal.kind] at hk
      | group l =>
        cases d' with
        | num k n2 => unfold RSV at h'; obtain ⟨_, _, hkk, _⟩ := h'; simp only [SVal.kind] at hk; exfalso; omega
        | group l' =>
          simp only [sQuiet] at hq hq'
          simp only [sSize] at hn
          exact equal_group l l' (fun d hs => ihn d (by omega)) hd hq.1 hq.2 hq'.2 w x y x' y' h h'
        | _ => exfalso; simp [SVal.kind] at hk
      | any g =>
        cases d' with
        | num k n2 => unfold RSV at h'; obtain ⟨_, _, hkk, _⟩ := h'; simp only [SVal.kind] at hk; exfalso; omega
        | any g' =>
          have h0 := h
          have h0' := h'
          unfold RSV at h0 h0'
          obtain ⟨rfl, _⟩ := h0
          obtain ⟨rfl, _⟩ := h0'
          have e : sEqual (.any g) (.any g') = (gEq g g', gBad g g') := by unfold sEqual; rfl
          rw [e]
          cases hb : gBad g g' with
          | false => have := equal_any_ok hd g g' hb y y' w h h'; rw [hb] at this; exact this
          | true => have := equal_any_bad hd g g' hb y y' w h h'; rw [hb] at this; exact this
        | _ => exfalso; simp [SVal.kind] at hk
      | valuer m v c =>
        have h0 := h
        unfold RSV at h0
        obtain ⟨vx, vy, rfl, rfl, _⟩ := h0
        cases d' with
        | num k n2 => unfold RSV at h'; obtain ⟨_, _, hkk, _⟩ := h'; simp only [SVal.kind] at hk; exfalso; omega
        | valuer m' v' c' =>
          have h0' := h'
          unfold RSV at h0'
          obtain ⟨vx', vy', rfl, rfl, _⟩ := h0'
          have e : sEqual (.valuer m v c) (.valuer m' v' c') = (false, true) := by unfold sEqual; rfl
          rw [e]
          exact equal_valuer m m' v v' c c' vx vy vx' vy' w h h'
        | throws s' c' =>
          have h0' := h'
          unfold RSV at h0'
          obtain ⟨rfl, rfl⟩ := h0'
          have e : sEqual (.valuer m v c) (.throws s' c') = (false, false) := by unfold sEqual; rfl
          rw [e]
          exact equal_vt m v c vx vy s' c' w h h'
        | _ => exfalso; simp [SVal.kind] at hk
      | throws s c =>
        have h0 := h
        unfold RSV at h0
        obtain ⟨rfl, rfl⟩ := h0
        cases d' with
        | num k n2 => unfold RSV at h'; obtain ⟨_, _, hkk, _⟩ := h'; simp only [SVal.kind] at hk; exfalso; omega
        | valuer m' v' c' =>
          have h0' := h'
          unfold RSV at h0'
          obtain ⟨vx', vy', rfl, rfl, _⟩ := h0'
          have e : sEqual (.throws s c) (.valuer m' v' c') = (false, false) := by unfold sEqual; rfl
          rw [e]
          exact equal_tv s c m' v' c' vx' vy' w h h'
        | throws s' c' =>
          have h0' := h'
          unfold RSV at h0'
          obtain ⟨rfl, rfl⟩ := h0'
          simp only [sQuiet] at hq hq'
          subst hq hq'
          have e : sEqual (.throws s none) (.throws s' none) = (decide (s = s'), false) := by unfold sEqual; rfl
          rw [e]
          exact equal_throws s s' w h h'
        | _ => exfalso; simp [SVal.kind] at hk
    · rw [sEqual_ne hk]
      obtain ⟨⟨i, rfl⟩, _⟩ := rsv_form h
      obtain ⟨⟨i', rfl⟩, _⟩ := rsv_form h'
      exact equal_ne d d' hk w i i' y y' h h'
theorem equal_any (d : SVal) : SEqV d := equal_size _ d (Nat.le_refl _)

end Go.Proofs.YtcgdnjigocknbaaDoor.Va

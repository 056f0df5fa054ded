/- The statement FnVaPanics: the walk. -/
import Derived.Test.YtcgdnjigocknbaaDoorPan
import Derived.Test.YtcgdnjigocknbaaDoorLaid
namespace Go.Proofs.YtcgdnjigocknbaaDoor.Va
set_option linter.unusedVariables false
set_option linter.unusedSimpArgs false
open Go Go.RowKit

theorem kindOf_any (a : Int) (h0 : 0 ≤ a) (h7 : a ≤ 7) (w : World) : Calls Tryd.prog 16 #[.int .i64 a] w fun e w' => e = .returned (.int .i64 (accKind a)) ∧ Below w.heap.size w w' := by
  have ha : a = 0 ∨ a = 1 ∨ a = 2 ∨ a = 3 ∨ a = 4 ∨ a = 5 ∨ a = 6 ∨ a = 7 := by omega
  rcases ha with rfl | rfl | rfl | rfl | rfl | rfl | rfl | rfl
  all_goals
    clear h0 h7
    go_enter Tryd.func16, Tryd.ntmps16
    go_wp2
    go_ret
    exact ⟨rfl, Below.refl _ _⟩

theorem rvs1 {w wx : World} {t : TypeId} {da : GVal} {A : Option Addr} {len cap : Nat} (hk : Keeps w wx) (ha : RS w da.l A len) :
    RVs (wx.alloc (.cells #[.int .i64 da.kind, .int .u64 da.n, .string da.s, .int .i64 da.t.sec, .int .i64 da.t.nsec, .int .i64 da.t.off, .slice A len cap] t)) [da] wx.heap.size 0 := by
  have ha' := (ha.keep hk).keep (keeps_alloc wx (.cells #[.int .i64 da.kind, .int .u64 da.n, .string da.s, .int .i64 da.t.sec, .int .i64 da.t.nsec, .int .i64 da.t.off, .slice A len cap] t))
  obtain ⟨k, n, s, ti, l⟩ := da
  unfold RVs RVs RVal
  simp only [kind_mk, n_mk, s_mk, t_mk, l_mk] at ha' ⊢
  exact ⟨⟨cell_new _ _ _ _ _ _ rfl rfl, cell_new _ _ _ _ _ _ rfl rfl, cell_new _ _ _ _ _ _ rfl rfl, cell_new _ _ _ _ _ _ rfl rfl, cell_new _ _ _ _ _ _ rfl rfl, cell_new _ _ _ _ _ _ rfl rfl, A, len, cap, cell_new _ _ _ _ _ _ rfl rfl, ha'.1, ha'.2⟩, trivial⟩

section
variable (da : GVal) (a : Int) (w : World) (A : Option Addr) (len cap : Nat)

set_option maxRecDepth 100000 in
set_option maxHeartbeats 400000 in
theorem lawPan_no1 (cFa : ∀ wx, Calls Tryd.prog 7 #[vVal da A len cap] wx (BoolEnd false wx)) :
    Calls Tryd.prog 6 #[vVal da A len cap, .int .i64 a] w (YesEnd w) := by
  unfold vVal at cFa ⊢
  unfold YesEnd
  have CFa := Lib.hid cFa
  clear cFa
  go_enter Tryd.func6, Tryd.ntmps6
  go_wp2_with (go_at_call 7; (with_reducible refine (CFa.out _).mono ?_); rintro e w2 ⟨rfl, hb2⟩; have hB2 := keeps_below (show Below w.heap.size w _ from (by repeat' (first | with_reducible assumption | with_reducible exact Below.refl _ _ | with_reducible refine Below.setCell ?_ ?_ _ | with_reducible refine Below.alloc ?_ ?_ _ | with_reducible refine Below.drew ?_ | with_reducible refine below_drewN ?_ _ | omega | (simp; done) | (simp; omega)))) hb2)
  go_ret
  exact ⟨rfl, hB2⟩

set_option maxRecDepth 100000 in
set_option maxHeartbeats 1000000 in
theorem lawPan_no2 (fine : Bool) (hf : fine = false ∨ a < 0 ∨ 7 < a) (ha64 : -9223372036854775808 ≤ a ∧ a ≤ 9223372036854775807) (cFa : ∀ wx, Calls Tryd.prog 7 #[vVal da A len cap] wx (BoolEnd true wx)) (ha : RS w da.l A len) (cN : ∀ wx b, RVs wx [da] b 0 → Calls Tryd.prog 8 #[.slice (some ⟨b, 0, none⟩) 1 1] wx (BoolEnd fine wx)) :
    Calls Tryd.prog 6 #[vVal da A len cap, .int .i64 a] w (YesEnd w) := by
  unfold vVal at cFa ⊢
  unfold YesEnd
  have CFa := Lib.hid cFa
  have CN := Lib.hid cN
  have HX := box_new w 27 da A len cap _ rfl
  have hW : Below w.heap.size w (w.alloc (.cells #[.int .i64 da.kind, .int .u64 da.n, .string da.s, .int .i64 da.t.sec, .int .i64 da.t.nsec, .int .i64 da.t.off, .slice A len cap] 27)) := (by repeat' (first | with_reducible assumption | with_reducible exact Below.refl _ _ | with_reducible refine Below.setCell ?_ ?_ _ | with_reducible refine Below.alloc ?_ ?_ _ | with_reducible refine Below.drew ?_ | with_reducible refine below_drewN ?_ _ | omega | (simp; done) | (simp; omega)))
  have HRA := Lib.hid ha
  clear cFa cN ha
  have hc : fine = false ∨ (fine = true ∧ a < 0) ∨ (fine = true ∧ ¬ a < 0 ∧ 7 < a) := by
    rcases hf with h | h | h
    · exact .inl h
    · cases fine
      · exact .inl rfl
      · exact .inr (.inl ⟨rfl, h⟩)
    · cases fine
      · exact .inl rfl
      · exact .inr (.inr ⟨rfl, by omega, h⟩)
  clear hf
  rcases hc with rfl | ⟨rfl, h1⟩ | ⟨rfl, h1, h2⟩
  all_goals
    go_enter Tryd.func6, Tryd.ntmps6
    go_wp2_with fail
    generalize w.alloc (.cells #[.int .i64 da.kind, .int .u64 da.n, .string da.s, .int .i64 da.t.sec, .int .i64 da.t.nsec, .int .i64 da.t.off, .slice A len cap] 27) = W at HX hW ⊢
    have HXA := Lib.hid HX
    clear HX
    go_wp2_with (first
      | (go_at_call 7; (with_reducible refine (CFa.out _).mono ?_); rintro e w2 ⟨rfl, hb2⟩; obtain ⟨p0, p1, p2, p3, p4, p5, p6⟩ := HXA.out.keep (keeps_of_below hb2); have hB2 := keeps_below hW hb2)
      | (go_at_call 8; (refine (CN.out _ _ (rvs1 (keeps_of_below hB2) HRA.out)).mono ?_); rintro e w4 ⟨rfl, hb4⟩; have hB4 := keeps_below (keeps_below hB2 ((Below.refl _ _).alloc (Nat.le_refl _) _)) hb4))
    go_ret
    exact ⟨rfl, hB4⟩

set_option maxRecDepth 100000 in
set_option maxHeartbeats 1000000 in
theorem lawPan_core (h0 : ¬ a < 0) (h7 : ¬ 7 < a) (cFa : ∀ wx, Calls Tryd.prog 7 #[vVal da A len cap] wx (BoolEnd true wx)) (ha : RS w da.l A len) (cN : ∀ wx b, RVs wx [da] b 0 → Calls Tryd.prog 8 #[.slice (some ⟨b, 0, none⟩) 1 1] wx (BoolEnd true wx))
    (c : Int) (cC : ∀ wx, Calls Tryd.prog 16 #[.int .i64 a] wx fun e w' => e = .returned (.int .i64 c) ∧ Below wx.heap.size wx w')
    (cP : ∀ wx, Keeps w wx → Calls Tryd.prog 15 #[vVal da A len cap, .int .i64 a] wx (BoolEnd (decide (da.kind ≠ c)) wx)) :
    Calls Tryd.prog 6 #[vVal da A len cap, .int .i64 a] w (YesEnd w) := by
  unfold vVal at cFa cP ⊢
  unfold YesEnd
  have CFa := Lib.hid cFa
  have CN := Lib.hid cN
  have CC := Lib.hid cC
  have HX := box_new w 27 da A len cap _ rfl
  have hW : Below w.heap.size w (w.alloc (.cells #[.int .i64 da.kind, .int .u64 da.n, .string da.s, .int .i64 da.t.sec, .int .i64 da.t.nsec, .int .i64 da.t.off, .slice A len cap] 27)) := (by repeat' (first | with_reducible assumption | with_reducible exact Below.refl _ _ | with_reducible refine Below.setCell ?_ ?_ _ | with_reducible refine Below.alloc ?_ ?_ _ | with_reducible refine Below.drew ?_ | with_reducible refine below_drewN ?_ _ | omega | (simp; done) | (simp; omega)))
  have HRA := Lib.hid ha
  clear cFa cN ha cC
  obtain ⟨k, n, s, t, l⟩ := da
  simp only [kind_mk, n_mk, s_mk, t_mk, l_mk] at CFa HX hW HRA cP ⊢
  have hk : k = c ∨ (¬ k = c ∧ (k != c) = true) := by
    by_cases h : k = c
    · exact .inl h
    · exact .inr ⟨h, by simp [h]⟩
  rcases hk with rfl | ⟨hk, hk'⟩
  · have cP2 : ∀ wx, Keeps w wx → Calls Tryd.prog 15 #[.agg #[.int .i64 k, .int .u64 n, .string s, .int .i64 t.sec, .int .i64 t.nsec, .int .i64 t.off, .slice A len cap], .int .i64 a] wx (BoolEnd false wx) := by simpa using cP
    have CP := Lib.hid cP2
    clear cP cP2
    go_enter Tryd.func6, Tryd.ntmps6
    go_wp2_with fail
    generalize w.alloc (.cells #[.int .i64 k, .int .u64 n, .string s, .int .i64 t.sec, .int .i64 t.nsec, .int .i64 t.off, .slice A len cap] 27) = W at HX hW ⊢
    have HXA := Lib.hid HX
    clear HX
    go_wp2_with (first
      | (go_at_call 7; (with_reducible refine (CFa.out _).mono ?_); rintro e w2 ⟨rfl, hb2⟩; obtain ⟨p0, p1, p2, p3, p4, p5, p6⟩ := HXA.out.keep (keeps_of_below hb2); have hB2 := keeps_below hW hb2; have hK2 := Lib.hid (keeps_of_below hb2))
      | (go_at_call 8; (refine (CN.out _ _ (rvs1 (keeps_of_below hB2) HRA.out)).mono ?_); rintro e w4 ⟨rfl, hb4⟩; have hB4 := keeps_below (keeps_below hB2 ((Below.refl _ _).alloc (Nat.le_refl _) _)) hb4; have hK4 := Lib.hid ((hK2.out.trans (keeps_alloc _ _)).trans (keeps_of_below hb4)); clear hb4 p0 p1 p2 p3 p4 p5 p6))
    have HS := Lib.hid (fun wx (hx : Keeps w4 wx) => HXA.out.keep (hK4.out.trans hx))
    go_region_held3 (fun wx => wx.cell? ⟨w.heap.size, 0, none⟩ = some (.int .i64 k) ∧ wx.cell? ⟨w.heap.size, 1, none⟩ = some (.int .u64 n) ∧ wx.cell? ⟨w.heap.size, 2, none⟩ = some (.string s) ∧ wx.cell? ⟨w.heap.size, 3, none⟩ = some (.int .i64 t.sec) ∧ wx.cell? ⟨w.heap.size, 4, none⟩ = some (.int .i64 t.nsec) ∧ wx.cell? ⟨w.heap.size, 5, none⟩ = some (.int .i64 t.off) ∧ wx.cell? ⟨w.heap.size, 6, none⟩ = some (.slice A len cap))
      (first | exact HS.out _ hK6.out | exact HS.out _ hK5.out | exact HS.out _ (keeps_drew _))
      (first
        | (go_at_call 15; ((refine (CP.out _ (by first | exact keeps_of_below hB6 | exact (keeps_of_below hB4).trans (keeps_drew _))).mono ?_); rintro e w5 ⟨rfl, hb5⟩; have hB5 : Below w.heap.size w w5 := (by first | exact keeps_below hB6 hb5 | exact keeps_below hB4.drew hb5); have hK5 := Lib.hid (show Keeps w4 w5 from by first | exact hK6.out.trans (keeps_of_below hb5) | exact (keeps_drew w4).trans (keeps_of_below hb5)); clear hb5))
        | (go_at_call 16; ((refine (CC.out _).mono ?_); rintro e w6 ⟨rfl, hb6⟩; have hB6 : Below w.heap.size w w6 := (by first | exact keeps_below hB5 hb6 | exact keeps_below hB4.drew hb6); have hK6 := Lib.hid (show Keeps w4 w6 from by first | exact hK5.out.trans (keeps_of_below hb6) | exact (keeps_drew w4).trans (keeps_of_below hb6)); clear hb6)))
    all_goals
      go_wp2
      go_ret
      exact ⟨rfl, by first | exact hB6 | exact hB5⟩
  · have cP2 : ∀ wx, Keeps w wx → Calls Tryd.prog 15 #[.agg #[.int .i64 k, .int .u64 n, .string s, .int .i64 t.sec, .int .i64 t.nsec, .int .i64 t.off, .slice A len cap], .int .i64 a] wx (BoolEnd true wx) := by simpa [hk] using cP
    have CP := Lib.hid cP2
    clear cP cP2
    go_enter Tryd.func6, Tryd.ntmps6
    go_wp2_with fail
    generalize w.alloc (.cells #[.int .i64 k, .int .u64 n, .string s, .int .i64 t.sec, .int .i64 t.nsec, .int .i64 t.off, .slice A len cap] 27) = W at HX hW ⊢
    have HXA := Lib.hid HX
    clear HX
    go_wp2_with (first
      | (go_at_call 7; (with_reducible refine (CFa.out _).mono ?_); rintro e w2 ⟨rfl, hb2⟩; obtain ⟨p0, p1, p2, p3, p4, p5, p6⟩ := HXA.out.keep (keeps_of_below hb2); have hB2 := keeps_below hW hb2; have hK2 := Lib.hid (keeps_of_below hb2))
      | (go_at_call 8; (refine (CN.out _ _ (rvs1 (keeps_of_below hB2) HRA.out)).mono ?_); rintro e w4 ⟨rfl, hb4⟩; have hB4 := keeps_below (keeps_below hB2 ((Below.refl _ _).alloc (Nat.le_refl _) _)) hb4; have hK4 := Lib.hid ((hK2.out.trans (keeps_alloc _ _)).trans (keeps_of_below hb4)); clear hb4 p0 p1 p2 p3 p4 p5 p6))
    have HS := Lib.hid (fun wx (hx : Keeps w4 wx) => HXA.out.keep (hK4.out.trans hx))
    go_region_held3 (fun wx => wx.cell? ⟨w.heap.size, 0, none⟩ = some (.int .i64 k) ∧ wx.cell? ⟨w.heap.size, 1, none⟩ = some (.int .u64 n) ∧ wx.cell? ⟨w.heap.size, 2, none⟩ = some (.string s) ∧ wx.cell? ⟨w.heap.size, 3, none⟩ = some (.int .i64 t.sec) ∧ wx.cell? ⟨w.heap.size, 4, none⟩ = some (.int .i64 t.nsec) ∧ wx.cell? ⟨w.heap.size, 5, none⟩ = some (.int .i64 t.off) ∧ wx.cell? ⟨w.heap.size, 6, none⟩ = some (.slice A len cap))
      (first | exact HS.out _ hK6.out | exact HS.out _ hK5.out | exact HS.out _ (keeps_drew _))
      (first
        | (go_at_call 15; ((refine (CP.out _ (by first | exact keeps_of_below hB6 | exact (keeps_of_below hB4).trans (keeps_drew _))).mono ?_); rintro e w5 ⟨rfl, hb5⟩; have hB5 : Below w.heap.size w w5 := (by first | exact keeps_below hB6 hb5 | exact keeps_below hB4.drew hb5); have hK5 := Lib.hid (show Keeps w4 w5 from by first | exact hK6.out.trans (keeps_of_below hb5) | exact (keeps_drew w4).trans (keeps_of_below hb5)); clear hb5))
        | (go_at_call 16; ((refine (CC.out _).mono ?_); rintro e w6 ⟨rfl, hb6⟩; have hB6 : Below w.heap.size w w6 := (by first | exact keeps_below hB5 hb6 | exact keeps_below hB4.drew hb6); have hK6 := Lib.hid (show Keeps w4 w6 from by first | exact hK5.out.trans (keeps_of_below hb6) | exact (keeps_drew w4).trans (keeps_of_below hb6)); clear hb6)))
    all_goals
      go_wp2
      go_ret
      exact ⟨rfl, by first | exact hB6 | exact hB5⟩

end

/-- laws.FnVaPanics. -/
theorem lawPan_any (da : GVal) (a : Int) (w : World) (A : Option Addr) (len cap : Nat) (wa : da.wf) (ha64 : -9223372036854775808 ≤ a ∧ a ≤ 9223372036854775807) (ha : RS w da.l A len) (hT : KTab w) :
    Calls Tryd.prog 6 #[vVal da A len cap, .int .i64 a] w (YesEnd w) := by
  have cFa := fun wx => fits7_any da wx A len cap wa ha.1
  cases h1 : fits7 da with
  | false => rw [h1] at cFa; exact lawPan_no1 da a w A len cap cFa
  | true =>
    rw [h1] at cFa
    have cN := fun wx b h => fine_any [da] wx b 0 1 1 rfl (by omega) (by simp only [List.mem_cons, List.not_mem_nil, or_false, forall_eq]; exact wa) h
    by_cases h3 : 0 ≤ fineL [da] 65536
    · rw [decide_eq_true h3] at cN
      by_cases h4 : a < 0
      · exact lawPan_no2 da a w A len cap true (.inr (.inl h4)) ha64 cFa ha cN
      by_cases h5 : 7 < a
      · exact lawPan_no2 da a w A len cap true (.inr (.inr h5)) ha64 cFa ha cN
      unfold fineL fineL at h3
      rw [if_neg (by omega)] at h3
      obtain ⟨ga, sa⟩ := left_good da 20 65536 h3
      have sza : da.size ≤ 65536 := by omega
      have hkd := value_kind none da ga
      have hg : 0 ≤ da.kind ∧ da.kind ≤ 9 := by
        obtain ⟨k, n, s, t, l⟩ := da
        unfold good at ga
        exact ⟨ga.1, ga.2.1⟩
      exact lawPan_core da a w A len cap h4 h5 cFa ha cN (accKind a) (fun wx => kindOf_any a (by omega) (by omega) wx) (fun wx hx => (implPan_any da (valueOf none da) a (by omega) (by omega) wx A len cap (by rw [hkd]; exact hg.1) (by rw [hkd]; exact hg.2) (hT.keep hx)
        (fun wy hy => valueOf_any none da wy A len cap (by omega) wa (ha.keep (hx.trans hy)))).mono fun e w' h => by rw [hkd] at h; exact h)
    · rw [decide_eq_false h3] at cN
      exact lawPan_no2 da a w A len cap false (.inl rfl) ha64 cFa ha cN

end Go.Proofs.YtcgdnjigocknbaaDoor.Va

/- impl.Args: the walk. -/
import Derived.Test.YtihhgnbgejjijaaGreatDoorLog
import Derived.Test.YtihhgnbgejjijaaGreatDoorArgsOf
namespace Go.Proofs.YtihhgnbgejjijaaGreatDoor.Va
set_option linter.unusedVariables false
set_option linter.unusedSimpArgs false
open Go Go.RowKit

/-- A variable without events. -/
theorem evr_nil {w : World} {t : TypeId} : EvR w.heap.size (.slice none 0 0) [] (w.alloc (.cells #[.slice none 0 0] t)) :=
  ⟨[], ⟨cell_new _ _ _ _ _ _ rfl rfl, by simp [go_sem], World.ownsRow_nil _ _ _ _⟩, rfl⟩
/-- Behind what makes memory. -/
theorem evr_keep {c : Nat} {u : Value} {l : List GEv} {w w' : World} (h : EvR c u l w) (hk : Below w.heap.size w w') : EvR c u l w' := h.below hk

set_option maxRecDepth 100000 in
set_option maxHeartbeats 2000000 in
/-- impl.Args. -/
theorem implArgs_any (l : List GArg) (w : World) (A : Option Addr) (len cap : Nat) (hok : argsOk l) (hsz : argsSize l ≤ 299999) (hp : pairsOk l) (hw : argsWf l) (hlc : len ≤ cap) (hl : RArgS w l A len) :
    Calls Tryz.prog 19 #[.slice A len cap] w (ListPost (argsTold l) w) := by
  obtain ⟨Q, hQ⟩ : ∃ Q : Ending → World → Prop, Q = ListPost (argsTold l) w := ⟨_, rfl⟩
  rw [← hQ]
  have HQ := Lib.hid hQ
  clear hQ
  have hll := args_len l
  have HV := Lib.hid (fun wx (hk : Keeps w wx) => argsOf_any l wx A len cap hok hw (by omega) (hl.keep hk))
  have HZ := Lib.hid (show vSizeAll (attrsOf none (rcRaw l)).full ≤ 700000 by have h1 := vsize_all none (rcRaw l); have h2 := vsize_full (attrsOf none (rcRaw l)); have h3 := (rcRaw_size l).1; omega)
  have HL := Lib.hid (fun P wx A1 len1 cap1 c u lg (h : EvR c u [] wx) hl hlg ha hlc hPr => Log_any _ _ _ _ _ wx _ ((log_yes (P := P) lg .nilIface (.inl rfl) (-4611686018427387904) 0 c u [] l ByteArray.empty wx A1 len1 cap1 h (by simp) hl hlg (by omega) ha hlc hok hw hp (by omega) HZ.out hPr).mono fun e w' h => ⟨h.1, (show EvPost c u [evAsk (-4611686018427387904) 0, ⟨3, 0, false, ByteArray.empty, ByteArray.empty, argsTold l⟩] (.tuple #[]) wx e w' from h)⟩))
  have HE0 : EvR w.heap.size (.slice none 0 0) [] (w.alloc (.cells #[.slice none 0 0] 63)) := evr_nil
  have HE := Lib.hid HE0
  clear hok hsz hp hw hl hll HE0
  unfold ArgsPost at HV
  go_enter Tryz.func19, Tryz.ntmps19
  go_wp2_with (first
    | (go_at_call 58; refine (new_any _ _ _).mono ?_; rintro e w2 ⟨rfl, rfl⟩)
    | (go_at_call 60; refine (HV.out _ (keeps_of_below (show Below w.heap.size w _ from (by repeat' (first | with_reducible assumption | with_reducible exact Below.refl _ _ | with_reducible refine Below.setCell ?_ ?_ _ | with_reducible refine Below.alloc ?_ ?_ _ | with_reducible refine Below.drew ?_ | with_reducible refine below_drewN ?_ _ | omega | (simp; done) | (simp; omega)))))).mono ?_; rintro e w3 ⟨A3, len3, cap3, rfl, hlc3, hr3, hb3⟩; have HB3 := Lib.hid hb3; have HR3 := Lib.hid (And.intro hr3 hlc3); have hs3 := hb3.size; clear hr3 hlc3 hb3)
    | (go_at_call 59; have hE3 := ((HE.out.below ((Below.refl _ _).alloc (Nat.le_refl _) (.cells #[.iface 95 (.agg #[.int .i64 (-4611686018427387904), .bool false, .pointer (some ⟨w.heap.size, 0, none⟩)])] 165))).below HB3.out); have hC3 : w3.cell? ⟨w.heap.size + 1, 0, none⟩ = some (.iface 95 (.agg #[.int .i64 (-4611686018427387904), .bool false, .pointer (some ⟨w.heap.size, 0, none⟩)])) := ((keeps_of_below HB3.out).cell (cell_new _ _ _ _ 0 _ (by simp) rfl)); (refine (HL.out (New _) w3 A3 len3 cap3 w.heap.size (.slice none 0 0) (w.heap.size + 1) hE3 hC3 ⟨by omega, fun h => by cases h⟩ HR3.out.1 HR3.out.2 (fun b hb _ => ⟨by unfold New at hb; simp at hb; omega, fun h => by cases h⟩)).mono ?_); rintro e w4 ⟨rfl, v4, hE4, hT4, hN4⟩; have hB3 : Below w.heap.size w w3 := keeps_below (by repeat' (first | with_reducible assumption | with_reducible exact Below.refl _ _ | with_reducible refine Below.setCell ?_ ?_ _ | with_reducible refine Below.alloc ?_ ?_ _ | with_reducible refine Below.drew ?_ | with_reducible refine below_drewN ?_ _ | omega | (simp; done) | (simp; omega))) HB3.out; have hB4 : Below w.heap.size w w4 := Two.under hB3 (Nat.le_refl _) hT4 (Nat.le_refl _) (fun g hg => by cases hg); obtain ⟨xs4, hU4, hX4⟩ := hE4; have c4 := hU4.1; obtain ⟨A4, cap4, rfl, hr4⟩ := revs_of_owns (n := 2) (Q := New w) hU4.2.2 hX4 (fun b hb => Nat.le_of_lt hb.1) (fun b hb => Nat.le_of_succ_le hb); obtain ⟨b4, o4, rfl, hb4, hq4⟩ := hr4.2 (by omega); have HQ4 := Lib.hid (And.intro hq4 hb4); have HB4 := Lib.hid hB4; have hs4 := hB4.size; clear hE3 hC3 hT4 hN4 hU4 hX4 hr4 hq4 hb4 hB3 hB4))
  obtain ⟨⟨p0, p1, p2, p3, p4, ⟨B0, m0, d0, p5, _⟩, q0, q1, q2, q3, q4, ⟨B1, m1, d1, q5, hr⟩, _⟩, hb4⟩ := HQ4.out
  have HR := Lib.hid hr
  clear hr HQ4
  go_loopw [14] (fun x wr => (x = .int .i64 0 ∧ wr = w4) ∨ (x = .int .i64 1 ∧ Below w4.heap.size w4 wr)) (fun x _ => 2 - (intOf x).toNat)
  case atStart => exact .inl ⟨rfl, rfl⟩
  case round =>
    rcases hrel with ⟨rfl, rfl⟩ | ⟨rfl, hB⟩
    · clear q0 q1 q2 q3 q4 q5
      simp only [evAsk] at p0 p1 p2 p3 p4
      go_wp2
      exact ⟨.inr ⟨rfl, (by repeat' (first | with_reducible assumption | with_reducible exact Below.refl _ _ | with_reducible refine Below.setCell ?_ ?_ _ | with_reducible refine Below.alloc ?_ ?_ _ | with_reducible refine Below.drew ?_ | with_reducible refine below_drewN ?_ _ | omega | (simp; done) | (simp; omega)))⟩, by simp [intOf]⟩
    · have hK := keeps_of_below hB
      have r0 := hK.cell q0
      have r1 := hK.cell q1
      have r2 := hK.cell q2
      have r3 := hK.cell q3
      have r4 := hK.cell q4
      have r5 := hK.cell q5
      clear p0 p1 p2 p3 p4 p5 q0 q1 q2 q3 q4 q5
      simp only at r0 r1 r2 r3 r4
      have hBw := keeps_below HB4.out hB
      have HK := Lib.hid hK
      clear hK
      go_wp2
      rw [HQ.out]
      exact ⟨B1, m1, d1, rfl, (HR.out.turn (HK.out.on _) (fun _ h _ => h)).turn ((KeepsOn.refl _ _).alloc _) (fun _ h _ => h), hBw.alloc (by have := hBw.size; omega) _⟩

end Go.Proofs.YtihhgnbgejjijaaGreatDoor.Va

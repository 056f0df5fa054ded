/- impl.Resolve. -/
import Derived.Test.YtdeomgfapffidaaGreatDoorTErr
import Derived.Test.YtdeomgfapffidaaGreatDoorResP
import Derived.Deep.RegionHeld3
namespace Go.Proofs.YtdeomgfapffidaaGreatDoor.Va
set_option linter.unusedVariables false
set_option linter.unusedSimpArgs false
open Go Go.RowKit

/-- What is told of the end of Resolve. -/
def tellOf : Out → GVal
  | .val d _ => told d
  | .pan _ => .mk 0 1 panText .zero .nil
  | .much => .mk 0 1 muchText .zero .nil
def countOf : Out → Nat
  | .val _ c => c
  | .pan c => c
  | .much => 100

def nilOf : Out → Bool
  | .val (.any .nil) _ => true
  | _ => false
def NilIs (b : Bool) (y : Value) : Prop := match b with | true => y = .nilIface | false => ∃ t u, y = .iface t u
theorem rsv_nil {P : Nat → Prop} {w : World} {d : SVal} {x y : Value} (c : Nat) (h : RSV P w d x y) : NilIs (nilOf (.val d c)) y := by
  cases d with
  | num k n => unfold RSV at h; exact ⟨_, _, h.2.1⟩
  | str s => unfold RSV at h; exact ⟨_, _, h.2⟩
  | time t => unfold RSV at h; exact ⟨_, _, h.2⟩
  | group l => unfold RSV at h; obtain ⟨A, len, cap, _, e, _⟩ := h; exact ⟨_, _, e⟩
  | valuer n v c => unfold RSV at h; obtain ⟨vx, vy, _, e, _⟩ := h; exact ⟨_, _, e⟩
  | throws s c => unfold RSV at h; exact ⟨_, _, h.2⟩
  | any g =>
    unfold RSV at h
    have h := h.2
    cases g with
    | nil => exact h
    | bytes s => obtain ⟨A, len, cap, e, _⟩ := h; exact ⟨_, _, e⟩
    | source f s n => obtain ⟨b, e, _⟩ := h; exact ⟨_, _, e⟩
    | made s => exact h.elim
    | _ => exact ⟨_, _, h⟩

/-- Value.Resolve, and what impl.told tells of what it hands back. -/
theorem resolve_tell {P : Nat → Prop} (d : SVal) (g : Nat) (w : World) (j0 : Int) (y0 : Value) (h : RSV P w d (.int .u64 j0) y0) (hP : ∀ b, P b → b ≠ g) (hC : chainC (some ⟨g, 0, none⟩) d) (hc : w.cell? ⟨g, 0, none⟩ = some (.int .i64 0)) (hf : w.frozen? ⟨g, 0, none⟩ = false)
    (hv : ∀ d' c, resolveS 100 d 0 = .val d' c → vSize d' ≤ 700000) :
    Calls Tryz.prog 46 #[.agg #[.int .u64 j0, y0]] w fun e w' => ∃ x y, e = .returned (.agg #[.int .u64 x, y]) ∧ NilIs (nilOf (resolveS 100 d 0)) y ∧ CntEnd g (countOf (resolveS 100 d 0)) w w' ∧
      ∀ wx, Keeps w' wx → Calls Tryz.prog 44 #[.agg #[.int .u64 x, y]] wx (TidyPost (tellOf (resolveS 100 d 0)) wx) := by
  refine (resolve_any d g w j0 y0 h hP hC hc hf).mono fun e w' hE => ?_
  cases ho : resolveS 100 d 0 with
  | val d' c =>
    rw [ho] at hE
    obtain ⟨⟨x, y, rfl, hr⟩, hcn⟩ := hE
    obtain ⟨x', rfl, hy⟩ := rsv_shape hr
    exact ⟨x', y, rfl, rsv_nil c hr, hcn, fun wx hk => told_any d' P wx _ _ (hv d' c ho) (hr.keep hk)⟩
  | pan c =>
    rw [ho] at hE
    obtain ⟨⟨b, rfl, hcell, _⟩, hcn⟩ := hE
    exact ⟨0, _, rfl, ⟨_, _, rfl⟩, hcn, fun wx hk => told_err panText b wx (hk.cell hcell)⟩
  | much =>
    rw [ho] at hE
    obtain ⟨⟨b, rfl, hcell, _⟩, hcn⟩ := hE
    exact ⟨0, _, rfl, ⟨_, _, rfl⟩, hcn, fun wx hk => told_err muchText b wx (hk.cell hcell)⟩

theorem keepsOn_set7 {P : Nat → Prop} {w : World} {c : Nat} (hc : ∀ b, P b → b ≠ c) (v0 v1 v2 v3 v4 v5 v6 : Value) : KeepsOn P w (((((((w.setCell ⟨c, 0, none⟩ v0).setCell ⟨c, 1, none⟩ v1).setCell ⟨c, 2, none⟩ v2).setCell ⟨c, 3, none⟩ v3).setCell ⟨c, 4, none⟩ v4).setCell ⟨c, 5, none⟩ v5).setCell ⟨c, 6, none⟩ v6) :=
  (((((((KeepsOn.refl _ _).setCell hc _).setCell hc _).setCell hc _).setCell hc _).setCell hc _).setCell hc _).setCell hc _
theorem s3_start {w2 wx : World} {x2 : Int} {y2 : Value} {g : Nat} {k : Int} {t : TypeId} (gk : w2.cell? ⟨g, 0, none⟩ = some (.int .i64 k)) (hx : Keeps (w2.alloc (.cells #[.int .u64 x2, y2] t)) wx) :
    wx.cell? ⟨w2.heap.size, 0, none⟩ = some (.int .u64 x2) ∧ wx.cell? ⟨w2.heap.size, 1, none⟩ = some y2 ∧ wx.cell? ⟨g, 0, none⟩ = some (.int .i64 k) :=
  ⟨hx.cell (cell_new _ _ _ _ 0 _ rfl rfl), hx.cell (cell_new _ _ _ _ 1 _ rfl rfl), hx.cell ((keeps_alloc _ _).cell gk)⟩
theorem s3_set7 {wx : World} {b c : Nat} {x2 : Int} {y2 : Value} {k : Int} {v0 v1 v2 v3 v4 v5 v6 : Value} (hn : ¬ c = b)
    (h : wx.cell? ⟨b, 0, none⟩ = some (.int .u64 x2) ∧ wx.cell? ⟨b, 1, none⟩ = some y2 ∧ wx.cell? ⟨c + 1, 0, none⟩ = some (.int .i64 k)) :
    (((((((wx.setCell ⟨c, 0, none⟩ v0).setCell ⟨c, 1, none⟩ v1).setCell ⟨c, 2, none⟩ v2).setCell ⟨c, 3, none⟩ v3).setCell ⟨c, 4, none⟩ v4).setCell ⟨c, 5, none⟩ v5).setCell ⟨c, 6, none⟩ v6).cell? ⟨b, 0, none⟩ = some (.int .u64 x2) ∧
    (((((((wx.setCell ⟨c, 0, none⟩ v0).setCell ⟨c, 1, none⟩ v1).setCell ⟨c, 2, none⟩ v2).setCell ⟨c, 3, none⟩ v3).setCell ⟨c, 4, none⟩ v4).setCell ⟨c, 5, none⟩ v5).setCell ⟨c, 6, none⟩ v6).cell? ⟨b, 1, none⟩ = some y2 ∧
    (((((((wx.setCell ⟨c, 0, none⟩ v0).setCell ⟨c, 1, none⟩ v1).setCell ⟨c, 2, none⟩ v2).setCell ⟨c, 3, none⟩ v3).setCell ⟨c, 4, none⟩ v4).setCell ⟨c, 5, none⟩ v5).setCell ⟨c, 6, none⟩ v6).cell? ⟨c + 1, 0, none⟩ = some (.int .i64 k) :=
  ⟨(cell_set7 hn _ _ _ _ _ _ _ _).trans h.1, (cell_set7 hn _ _ _ _ _ _ _ _).trans h.2.1, (cell_set7 (by omega) _ _ _ _ _ _ _ _).trans h.2.2⟩
theorem s3_setg {wx : World} {b g : Nat} {x2 : Int} {y2 : Value} {k : Int} (hn : ¬ g = b)
    (h : wx.cell? ⟨b, 0, none⟩ = some (.int .u64 x2) ∧ wx.cell? ⟨b, 1, none⟩ = some y2 ∧ wx.cell? ⟨g, 0, none⟩ = some (.int .i64 k)) :
    (wx.setCell ⟨g, 0, none⟩ (.int .i64 k)).cell? ⟨b, 0, none⟩ = some (.int .u64 x2) ∧ (wx.setCell ⟨g, 0, none⟩ (.int .i64 k)).cell? ⟨b, 1, none⟩ = some y2 ∧ (wx.setCell ⟨g, 0, none⟩ (.int .i64 k)).cell? ⟨g, 0, none⟩ = some (.int .i64 k) := by
  have hne : ∀ i : Nat, (⟨g, 0, none⟩ : Addr) ≠ ⟨b, i, none⟩ := by intro i e; injection e with e; exact hn e
  exact ⟨by rw [World.cell?_setCell_other _ _ _ _ (hne _)]; exact h.1, by rw [World.cell?_setCell_other _ _ _ _ (hne _)]; exact h.2.1, World.cell?_setCell_same _ _ _ h.2.2⟩

/-- The result, as it is laid: seven cells. -/
def Zero7 (b : Nat) (w : World) : Prop := w.cell? ⟨b, 0, none⟩ = some (.int .i64 0) ∧ w.cell? ⟨b, 1, none⟩ = some (.int .u64 0) ∧ w.cell? ⟨b, 2, none⟩ = some (.string ByteArray.empty) ∧ w.cell? ⟨b, 3, none⟩ = some (.int .i64 0) ∧ w.cell? ⟨b, 4, none⟩ = some (.int .i64 0) ∧ w.cell? ⟨b, 5, none⟩ = some (.int .i64 0) ∧ w.cell? ⟨b, 6, none⟩ = some (.slice none 0 0) ∧ (∀ o, o < 7 → w.frozen? ⟨b, o, none⟩ = false) ∧ b < w.heap.size
theorem Zero7.but {g b : Nat} {w w' : World} (h : Zero7 b w) (hb : But g w w') (hn : b ≠ g := by omega) : Zero7 b w' := by
  obtain ⟨a0, a1, a2, a3, a4, a5, a6, hf, hz⟩ := h
  have hs := hb.size
  exact ⟨(hb.cell hz hn).trans a0, (hb.cell hz hn).trans a1, (hb.cell hz hn).trans a2, (hb.cell hz hn).trans a3, (hb.cell hz hn).trans a4, (hb.cell hz hn).trans a5, (hb.cell hz hn).trans a6, fun o ho => (hb.frozen hz hn).trans (hf o ho), by omega⟩
theorem boxes_start {w w1 : World} {cs : Array Value} {t t' t'' : TypeId} (hb : Below (((w.alloc (.cells cs t)).alloc (.cells #[.int .i64 0, .int .u64 0, .string ByteArray.empty, .int .i64 0, .int .i64 0, .int .i64 0, .slice none 0 0] t')).alloc (.cells #[.int .i64 0] t'')).heap.size (((w.alloc (.cells cs t)).alloc (.cells #[.int .i64 0, .int .u64 0, .string ByteArray.empty, .int .i64 0, .int .i64 0, .int .i64 0, .slice none 0 0] t')).alloc (.cells #[.int .i64 0] t'')) w1) :
    w1.cell? ⟨w.heap.size + 1 + 1, 0, none⟩ = some (.int .i64 0) ∧ w1.frozen? ⟨w.heap.size + 1 + 1, 0, none⟩ = false ∧ Zero7 (w.heap.size + 1) w1 := by
  have k := keeps_of_below hb
  have k2 := (keeps_alloc ((w.alloc (.cells cs t)).alloc (.cells #[.int .i64 0, .int .u64 0, .string ByteArray.empty, .int .i64 0, .int .i64 0, .int .i64 0, .slice none 0 0] t')) (.cells #[.int .i64 0] t'')).trans k
  have hs := hb.size
  simp at hs
  refine ⟨k.cell (cell_new _ _ _ _ 0 _ (by simp) rfl), (hb.frozen (p := ⟨w.heap.size + 1 + 1, 0, none⟩) (by simp)).trans (by simp [go_sem]), k2.cell (cell_new _ _ _ _ 0 _ (by simp) rfl), k2.cell (cell_new _ _ _ _ 1 _ (by simp) rfl), k2.cell (cell_new _ _ _ _ 2 _ (by simp) rfl), k2.cell (cell_new _ _ _ _ 3 _ (by simp) rfl), k2.cell (cell_new _ _ _ _ 4 _ (by simp) rfl), k2.cell (cell_new _ _ _ _ 5 _ (by simp) rfl), k2.cell (cell_new _ _ _ _ 6 _ (by simp) rfl), ?_, by omega⟩
  intro o ho
  refine (hb.frozen (p := ⟨w.heap.size + 1, o, none⟩) (by show w.heap.size + 1 < _; simp)).trans ?_
  have : (((w.alloc (.cells cs t)).alloc (.cells #[.int .i64 0, .int .u64 0, .string ByteArray.empty, .int .i64 0, .int .i64 0, .int .i64 0, .slice none 0 0] t')).alloc (.cells #[.int .i64 0] t'')).frozen? ⟨w.heap.size + 1, o, none⟩ = false := by simp [go_sem]
  exact this

/-- What impl.Resolve hands back. -/
def ResPost (o : Out) (w : World) (e : Ending) (w' : World) : Prop := ∃ A len cap, e = .returned (.tuple #[vVal (tellOf o) A len cap, .int .i64 (countOf o)]) ∧ RSP (New w) w' (tellOf o).l A len ∧ Below w.heap.size w w'

set_option maxRecDepth 100000 in
set_option maxHeartbeats 1000000 in
/-- impl.Resolve. -/
theorem implResolve_any (d : GVal) (w : World) (A : Option Addr) (len cap : Nat) (hg : GoodD d) (hl : RS w d.l A len) (k : Nat) (D : GVal)
    (hk : countOf (resolveS 100 (valueOf (some ⟨w.heap.size + 1 + 1, 0, none⟩) d) 0) = k) (hD : tellOf (resolveS 100 (valueOf (some ⟨w.heap.size + 1 + 1, 0, none⟩) d) 0) = D)
    (hv : ∀ d' c, resolveS 100 (valueOf (some ⟨w.heap.size + 1 + 1, 0, none⟩) d) 0 = .val d' c → vSize d' ≤ 700000) :
    Calls Tryz.prog 21 #[vVal d A len cap] w fun e w' => ∃ A len cap, e = .returned (.tuple #[vVal D A len cap, .int .i64 k]) ∧ RSP (New w) w' D.l A len ∧ Below w.heap.size w w' := by
  have HV := Lib.hid (fun wx (hk : Keeps w wx) => valueOf_any (some ⟨w.heap.size + 1 + 1, 0, none⟩) d wx A len cap (by have := hg.2.2; omega) hg.2.1 (hl.keep hk))
  have HCh := Lib.hid (chain_value (some ⟨w.heap.size + 1 + 1, 0, none⟩) d hg.2.1)
  generalize valueOf (some ⟨w.heap.size + 1 + 1, 0, none⟩) d = sv at HV HCh hk hD hv
  have HSz := Lib.hid hv
  have HkD := Lib.hid (And.intro hk hD)
  clear hv hg hl hk hD
  unfold vVal at HV ⊢
  cases hnil : nilOf (resolveS 100 sv 0) with
  | true =>
    have HN := Lib.hid hnil
    clear hnil
    go_enter Tryz.func21, Tryz.ntmps21
    go_wp2_with (first
      | (go_at_call 45; refine (HV.out _ (keeps_of_below (by repeat' (first | with_reducible assumption | with_reducible exact Below.refl _ _ | with_reducible refine Below.setCell ?_ ?_ _ | with_reducible refine Below.alloc ?_ ?_ _ | with_reducible refine Below.drew ?_ | with_reducible refine below_drewN ?_ _ | omega | (simp; done) | (simp; omega))))).mono ?_; rintro e w1 ⟨x1, y1, rfl, hr1, hb1⟩; obtain ⟨i1, rfl, hy1⟩ := rsv_shape hr1; have hB1 := keeps_below (show Below w.heap.size w _ from (by repeat' (first | with_reducible assumption | with_reducible exact Below.refl _ _ | with_reducible refine Below.setCell ?_ ?_ _ | with_reducible refine Below.alloc ?_ ?_ _ | with_reducible refine Below.drew ?_ | with_reducible refine below_drewN ?_ _ | omega | (simp; done) | (simp; omega)))) hb1; have hz1 := hb1.size; (try simp at hz1); have HQ1 := Lib.hid (boxes_start hb1); have HR1 := Lib.hid hr1; clear hr1 hy1)
      | (go_at_call 46; refine (resolve_tell sv (w.heap.size + 1 + 1) w1 i1 y1 HR1.out (by intro b hb e; simp at hb; omega) HCh.out HQ1.out.1 HQ1.out.2.1 HSz.out).mono ?_; rintro e w2 ⟨x2, y2, rfl, hny, hcn, hT⟩; rw [HN.out] at hny; obtain rfl := (show y2 = .nilIface from hny); have hB2 := But.own hB1 (by omega) hcn.2.2; have hz2 := hcn.2.2.size; have HZ2 := Lib.hid (HQ1.out.2.2.but hcn.2.2); have HT := Lib.hid hT; have gk := hcn.1; have gf := hcn.2.1; rw [HkD.out.1] at gk; rw [HkD.out.2] at HT; clear hcn hT))
    obtain ⟨q0, q1, q2, q3, q4, q5, q6, qf, qz⟩ := HZ2.out
    have f0 := qf 0 (by omega)
    have f1 := qf 1 (by omega)
    have f2 := qf 2 (by omega)
    have f3 := qf 3 (by omega)
    have f4 := qf 4 (by omega)
    have f5 := qf 5 (by omega)
    have f6 := qf 6 (by omega)
    clear qf
    have HS := Lib.hid (fun wx (hx : Keeps (w2.alloc (.cells #[.int .u64 x2, .nilIface] 77)) wx) => s3_start gk hx)
    have HB := Lib.hid (hB2.alloc hB2.size (.cells #[.int .u64 x2, .nilIface] 77))
    have HZ := Lib.hid (HZ2.out.but (But.of_below (g := w.heap.size + 1 + 1) ((Below.refl _ _).alloc (Nat.le_refl _) (.cells #[.int .u64 x2, .nilIface] 77))))
    have HK := Lib.hid (keeps_alloc w2 (.cells #[.int .u64 x2, .nilIface] 77))
    have HG := Lib.hid (show (w2.alloc (.cells #[.int .u64 x2, .nilIface] 77)).frozen? ⟨w.heap.size + 1 + 1, 0, none⟩ = false from ((((Below.refl _ _).alloc (Nat.le_refl _) _).frozen (p := ⟨w.heap.size + 1 + 1, 0, none⟩) (by show w.heap.size + 1 + 1 < w2.heap.size; omega)).trans gf))
    have hsz : w2.heap.size < (w2.alloc (.cells #[.int .u64 x2, .nilIface] 77)).heap.size := by simp
    have hn1 : ¬ w.heap.size + 1 = w2.heap.size := by omega
    have hn2 : ¬ w.heap.size + 1 + 1 = w2.heap.size := by omega
    have hgz : w.heap.size + 1 + 1 < w2.heap.size := by omega
    clear q0 q1 q2 q3 q4 q5 q6 f0 f1 f2 f3 f4 f5 f6 gk gf qz HQ1 HZ2
    generalize w2.alloc (.cells #[.int .u64 x2, .nilIface] 77) = W at HS HB HZ HK HG hsz ⊢
    obtain ⟨s0, s1, s2⟩ := HS.out _ (Keeps.refl _)
    obtain ⟨q0, q1, q2, q3, q4, q5, q6, qf, qz⟩ := HZ.out
    have HF := Lib.hid qf
    clear qf
    go_region_held3 (fun wx => wx.cell? ⟨w2.heap.size, 0, none⟩ = some (.int .u64 x2) ∧ wx.cell? ⟨w2.heap.size, 1, none⟩ = some (.nilIface) ∧ wx.cell? ⟨w.heap.size + 1 + 1, 0, none⟩ = some (.int .i64 k))
      (first | with_reducible exact s3_set7 hn1 hS3 | with_reducible exact s3_setg hn2 (s3_set7 hn1 hS3) | with_reducible exact hS3 | go_keep)
      (first | (go_at_call 44; ((refine (HT.out _ (HK.out.trans (keeps_drew _))).mono ?_); rintro e w3 ⟨A3, len3, cap3, rfl, hr3, hb3⟩; have hK3 := Lib.hid ((keeps_drew W).trans (keeps_of_below hb3)); have HR3 := Lib.hid hr3; have hB3 := keeps_below HB.out.drew hb3; have hz3 := hb3.size; have hbb := (But.drew (But.refl (w.heap.size + 1 + 1) W)).trans (But.of_below hb3); obtain ⟨m0, m1, m2, m3, m4, m5, m6, mf, mz⟩ := HZ.out.but hbb; have n0 := mf 0 (by omega); have n1 := mf 1 (by omega); have n2 := mf 2 (by omega); have n3 := mf 3 (by omega); have n4 := mf 4 (by omega); have n5 := mf 5 (by omega); have n6 := mf 6 (by omega); have hS3 := HS.out _ hK3.out; have mg := hS3.2.2; have ng := (hb3.frozen (p := ⟨w.heap.size + 1 + 1, 0, none⟩) (Nat.lt_trans hgz hsz)).trans HG.out; clear hr3 hb3 mf hbb; unfold vVal)))
    go_wp2
    have hn3 : ¬ w.heap.size + 1 + 1 = w.heap.size + 1 := by omega
    have hn4 : ¬ w.heap.size + 1 = w.heap.size + 1 + 1 := by omega
    refine bodyPost_ret (v := .tuple #[vVal D A3 len3 cap3, .int .i64 k]) ?_ rfl ⟨A3, len3, cap3, rfl, HR3.out.turn ?_ (fun b hb _ => by simp at hb ⊢; omega), (below_set7 hB3 (by omega) _ _ _ _ _ _ _).setCell (by simp; omega) _⟩
    · simp [results, Tryz.results21, go_sem, m0, m1, m2, m3, m4, m5, m6, n0, n1, n2, n3, n4, n5, n6, mg, ng, hn3, hn4]; (try rfl)
    · exact (keepsOn_set7 (fun b hb => by simp at hb; omega) _ _ _ _ _ _ _).setCell (fun b hb => by simp at hb ⊢; omega) _
  | false =>
    have HN := Lib.hid hnil
    clear hnil
    go_enter Tryz.func21, Tryz.ntmps21
    go_wp2_with (first
      | (go_at_call 45; refine (HV.out _ (keeps_of_below (by repeat' (first | with_reducible assumption | with_reducible exact Below.refl _ _ | with_reducible refine Below.setCell ?_ ?_ _ | with_reducible refine Below.alloc ?_ ?_ _ | with_reducible refine Below.drew ?_ | with_reducible refine below_drewN ?_ _ | omega | (simp; done) | (simp; omega))))).mono ?_; rintro e w1 ⟨x1, y1, rfl, hr1, hb1⟩; obtain ⟨i1, rfl, hy1⟩ := rsv_shape hr1; have hB1 := keeps_below (show Below w.heap.size w _ from (by repeat' (first | with_reducible assumption | with_reducible exact Below.refl _ _ | with_reducible refine Below.setCell ?_ ?_ _ | with_reducible refine Below.alloc ?_ ?_ _ | with_reducible refine Below.drew ?_ | with_reducible refine below_drewN ?_ _ | omega | (simp; done) | (simp; omega)))) hb1; have hz1 := hb1.size; (try simp at hz1); have HQ1 := Lib.hid (boxes_start hb1); have HR1 := Lib.hid hr1; clear hr1 hy1)
      | (go_at_call 46; refine (resolve_tell sv (w.heap.size + 1 + 1) w1 i1 y1 HR1.out (by intro b hb e; simp at hb; omega) HCh.out HQ1.out.1 HQ1.out.2.1 HSz.out).mono ?_; rintro e w2 ⟨x2, y2, rfl, hny, hcn, hT⟩; rw [HN.out] at hny; obtain ⟨t2, u2, rfl⟩ := (show ∃ t u, y2 = .iface t u from hny); have hB2 := But.own hB1 (by omega) hcn.2.2; have hz2 := hcn.2.2.size; have HZ2 := Lib.hid (HQ1.out.2.2.but hcn.2.2); have HT := Lib.hid hT; have gk := hcn.1; have gf := hcn.2.1; rw [HkD.out.1] at gk; rw [HkD.out.2] at HT; clear hcn hT))
    obtain ⟨q0, q1, q2, q3, q4, q5, q6, qf, qz⟩ := HZ2.out
    have f0 := qf 0 (by omega)
    have f1 := qf 1 (by omega)
    have f2 := qf 2 (by omega)
    have f3 := qf 3 (by omega)
    have f4 := qf 4 (by omega)
    have f5 := qf 5 (by omega)
    have f6 := qf 6 (by omega)
    clear qf
    have HS := Lib.hid (fun wx (hx : Keeps (w2.alloc (.cells #[.int .u64 x2, .iface t2 u2] 77)) wx) => s3_start gk hx)
    have HB := Lib.hid (hB2.alloc hB2.size (.cells #[.int .u64 x2, .iface t2 u2] 77))
    have HZ := Lib.hid (HZ2.out.but (But.of_below (g := w.heap.size + 1 + 1) ((Below.refl _ _).alloc (Nat.le_refl _) (.cells #[.int .u64 x2, .iface t2 u2] 77))))
    have HK := Lib.hid (keeps_alloc w2 (.cells #[.int .u64 x2, .iface t2 u2] 77))
    have HG := Lib.hid (show (w2.alloc (.cells #[.int .u64 x2, .iface t2 u2] 77)).frozen? ⟨w.heap.size + 1 + 1, 0, none⟩ = false from ((((Below.refl _ _).alloc (Nat.le_refl _) _).frozen (p := ⟨w.heap.size + 1 + 1, 0, none⟩) (by show w.heap.size + 1 + 1 < w2.heap.size; omega)).trans gf))
    have hsz : w2.heap.size < (w2.alloc (.cells #[.int .u64 x2, .iface t2 u2] 77)).heap.size := by simp
    have hn1 : ¬ w.heap.size + 1 = w2.heap.size := by omega
    have hn2 : ¬ w.heap.size + 1 + 1 = w2.heap.size := by omega
    have hgz : w.heap.size + 1 + 1 < w2.heap.size := by omega
    clear q0 q1 q2 q3 q4 q5 q6 f0 f1 f2 f3 f4 f5 f6 gk gf qz HQ1 HZ2
    generalize w2.alloc (.cells #[.int .u64 x2, .iface t2 u2] 77) = W at HS HB HZ HK HG hsz ⊢
    obtain ⟨s0, s1, s2⟩ := HS.out _ (Keeps.refl _)
    obtain ⟨q0, q1, q2, q3, q4, q5, q6, qf, qz⟩ := HZ.out
    have HF := Lib.hid qf
    clear qf
    go_region_held3 (fun wx => wx.cell? ⟨w2.heap.size, 0, none⟩ = some (.int .u64 x2) ∧ wx.cell? ⟨w2.heap.size, 1, none⟩ = some (.iface t2 u2) ∧ wx.cell? ⟨w.heap.size + 1 + 1, 0, none⟩ = some (.int .i64 k))
      (first | with_reducible exact s3_set7 hn1 hS3 | with_reducible exact s3_setg hn2 (s3_set7 hn1 hS3) | with_reducible exact hS3 | go_keep)
      (first | (go_at_call 44; ((refine (HT.out _ (HK.out.trans (keeps_drew _))).mono ?_); rintro e w3 ⟨A3, len3, cap3, rfl, hr3, hb3⟩; have hK3 := Lib.hid ((keeps_drew W).trans (keeps_of_below hb3)); have HR3 := Lib.hid hr3; have hB3 := keeps_below HB.out.drew hb3; have hz3 := hb3.size; have hbb := (But.drew (But.refl (w.heap.size + 1 + 1) W)).trans (But.of_below hb3); obtain ⟨m0, m1, m2, m3, m4, m5, m6, mf, mz⟩ := HZ.out.but hbb; have n0 := mf 0 (by omega); have n1 := mf 1 (by omega); have n2 := mf 2 (by omega); have n3 := mf 3 (by omega); have n4 := mf 4 (by omega); have n5 := mf 5 (by omega); have n6 := mf 6 (by omega); have hS3 := HS.out _ hK3.out; have mg := hS3.2.2; have ng := (hb3.frozen (p := ⟨w.heap.size + 1 + 1, 0, none⟩) (Nat.lt_trans hgz hsz)).trans HG.out; clear hr3 hb3 mf hbb; unfold vVal)))
    go_wp2
    have hn3 : ¬ w.heap.size + 1 + 1 = w.heap.size + 1 := by omega
    have hn4 : ¬ w.heap.size + 1 = w.heap.size + 1 + 1 := by omega
    refine bodyPost_ret (v := .tuple #[vVal D A3 len3 cap3, .int .i64 k]) ?_ rfl ⟨A3, len3, cap3, rfl, HR3.out.turn ?_ (fun b hb _ => by simp at hb ⊢; omega), (below_set7 hB3 (by omega) _ _ _ _ _ _ _).setCell (by simp; omega) _⟩
    · simp [results, Tryz.results21, go_sem, m0, m1, m2, m3, m4, m5, m6, n0, n1, n2, n3, n4, n5, n6, mg, ng, hn3, hn4]; (try rfl)
    · exact (keepsOn_set7 (fun b hb => by simp at hb; omega) _ _ _ _ _ _ _).setCell (fun b hb => by simp at hb ⊢; omega) _

end Go.Proofs.YtdeomgfapffidaaGreatDoor.Va
